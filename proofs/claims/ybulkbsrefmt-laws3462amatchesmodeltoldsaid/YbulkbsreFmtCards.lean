/-
  DERIVED. GIVEN WITH THE SEED: THE CARDS: each row of YbulkbsreFmtRows.lean that lists a variable, with what it lists TIED to the program's text (the seventh form; the later family's looks); each row that meets fmt, with fmt's text TOLD by the authors' own Lean function (tested against real Go, not proved from fmt's source: count such statements apart). THE CARD IS WHAT COUNTS. Prove the row's statement (the work); the ties are given (YbulkbsreFmtTie.lean); close each card by the builder's one call (the guide's Derived/Test/ToyasCard.lean, 'card_holds'). Laid BY PROGRAM, IN A SANDBOX (cutbox-door.mjs). By AI agents, Wed Nov 11 2026. No macro, syntax, notation, axiom, sorry.
-/
import Derived.Test.YbulkbsreFmtRows
import GoSem.ClaimSeven
namespace Go.Proofs.YbulkbsreFmt
namespace Rows

/-- THE TOLD CARD OF 'segel.LawS3462AMatchesModel'. -/
def lawS3462AMatchesModelCard : Claim7 := { stood := { row := lawS3462AMatchesModelRow, standIns := [], harness := (true, "7d2f42b00531e83802b3ed9af774dbbca1cf3665d7fa785e466314f719e09077"), looks := true }, told := true, goes := false }
def LawS3462AMatchesModelToldSaid : Prop := Claim7.holds Ybaf.pinned (.plain (OpenSpec.ofChange lawS3462AMatchesModelSpec)) lawS3462AMatchesModelCard
/-- ITS FALSE NEIGHBOUR. Refute it at one input. -/
def LawS3462AMatchesModelToldWrongFalsely : Prop := Claim7.holds Ybaf.pinned (.plain (OpenSpec.ofChange lawS3462AMatchesModelWrong)) lawS3462AMatchesModelCard
end Rows
end Go.Proofs.YbulkbsreFmt
