/-
  DERIVED. GIVEN WITH THE SEED: THE CARDS: each row of YbulkbsmiFmtRows.lean that lists a variable, with what it lists TIED to the program's text (the seventh form; the later family's looks); each row that meets fmt, with fmt's text TOLD by the authors' own Lean function (tested against real Go, not proved from fmt's source: count such statements apart). THE CARD IS WHAT COUNTS. Prove the row's statement (the work); the ties are given (YbulkbsmiFmtTie.lean); close each card by the builder's one call (the guide's Derived/Test/ToyasCard.lean, 'card_holds'). Laid BY PROGRAM, IN A SANDBOX (cutbox-door.mjs). By AI agents, Wed Nov 11 2026. No macro, syntax, notation, axiom, sorry.
-/
import Derived.Test.YbulkbsmiFmtRows
import GoSem.ClaimSeven
namespace Go.Proofs.YbulkbsmiFmt
namespace Rows

/-- THE TOLD AND TIED CARD OF 'strictjson.LawS3453CModel'. -/
def lawS3453CModelCard : Claim7 := { stood := { row := lawS3453CModelRow, standIns := [], harness := (true, "667e3f4abaac49a25ea0c800c38ab6cfb8600ba4e73c9dade91436d4b5e1dd51"), looks := true }, told := true, laidByText := true, laidKinds := [.called], laidTests := true, laidLooks := .later, goes := false }
def LawS3453CModelToldSaid : Prop := Claim7.holds Ybaf.pinned (.plain (OpenSpec.ofChange lawS3453CModelSpec)) lawS3453CModelCard
/-- ITS FALSE NEIGHBOUR. Refute it at one input. -/
def LawS3453CModelToldWrongFalsely : Prop := Claim7.holds Ybaf.pinned (.plain (OpenSpec.ofChange lawS3453CModelWrong)) lawS3453CModelCard

/-- THE TOLD AND TIED CARD OF 'strictjson.LawS3453CDigits'. -/
def lawS3453CDigitsCard : Claim7 := { stood := { row := lawS3453CDigitsRow, standIns := [], harness := (true, "667e3f4abaac49a25ea0c800c38ab6cfb8600ba4e73c9dade91436d4b5e1dd51"), looks := true }, told := true, laidByText := true, laidKinds := [.called], laidTests := true, laidLooks := .later, goes := false }
def LawS3453CDigitsToldSaid : Prop := Claim7.holds Ybaf.pinned (.plain (OpenSpec.ofChange lawS3453CDigitsSpec)) lawS3453CDigitsCard
/-- ITS FALSE NEIGHBOUR. Refute it at one input. -/
def LawS3453CDigitsToldWrongFalsely : Prop := Claim7.holds Ybaf.pinned (.plain (OpenSpec.ofChange lawS3453CDigitsWrong)) lawS3453CDigitsCard
end Rows
end Go.Proofs.YbulkbsmiFmt
