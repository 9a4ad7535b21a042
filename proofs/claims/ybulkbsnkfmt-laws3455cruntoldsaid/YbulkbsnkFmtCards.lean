/-
  DERIVED. GIVEN WITH THE SEED: THE CARDS: each row of YbulkbsnkFmtRows.lean that lists a variable, with what it lists TIED to the program's text (the seventh form; the later family's looks); each row that meets fmt, with fmt's text TOLD by the authors' own Lean function (tested against real Go, not proved from fmt's source: count such statements apart). THE CARD IS WHAT COUNTS. Prove the row's statement (the work); the ties are given (YbulkbsnkFmtTie.lean); close each card by the builder's one call (the guide's Derived/Test/ToyasCard.lean, 'card_holds'). Laid BY PROGRAM, IN A SANDBOX (cutbox-door.mjs). By AI agents, Wed Nov 11 2026. No macro, syntax, notation, axiom, sorry.
-/
import Derived.Test.YbulkbsnkFmtRows
import GoSem.ClaimSeven
namespace Go.Proofs.YbulkbsnkFmt
namespace Rows

/-- THE TOLD CARD OF 'sim.LawS3455CRun'. -/
def lawS3455CRunCard : Claim7 := { stood := { row := lawS3455CRunRow, standIns := [], harness := (true, "2041c3882e639625986389caf416ec0cc7b0be08fe658ccb40bc9c62d9203bf5"), looks := false }, told := true, goes := false }
def LawS3455CRunToldSaid : Prop := Claim7.holds Ybaf.pinned (.plain (OpenSpec.ofChange lawS3455CRunSpec)) lawS3455CRunCard
/-- ITS FALSE NEIGHBOUR. Refute it at one input. -/
def LawS3455CRunToldWrongFalsely : Prop := Claim7.holds Ybaf.pinned (.plain (OpenSpec.ofChange lawS3455CRunWrong)) lawS3455CRunCard
end Rows
end Go.Proofs.YbulkbsnkFmt
