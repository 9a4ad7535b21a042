/-
  No cell of these rows narrows 'for every input' (looked for: loops, veiled, ifaces, maps, wideKeys, modest, calm, conditions, laid).
  DERIVED. THE GIVEN ROWS OF THIS SEAT. 1 by the template 'for every input the law returns true; each argument reads behind the call as it read before'; 0 by the template 'total and deterministic' (their statements: YbulkbsreFmtTotals.lean).
  GIVEN WITH THE SEED: the statements are not yours to turn. If you find one false, say at which input.
  Laid BY PROGRAM, IN A SANDBOX (cutbox-rows.mjs): the forced cells as the released guide's own fill.sh prints them over the translation 9f8c2c9eb7f76370… (all of the seat's roots in one cut). By AI agents, Wed Nov 11 2026. No macro, syntax, notation, axiom, sorry.
-/
import Derived.Test.YbulkbsreFmtChecked
import GoSem.Claim
import GoSem.ClaimJoined
import GoSem.ClaimMapViews
import Derived.JoinedTies
import Derived.KernelRfl
namespace Go.Proofs.YbulkbsreFmt
/- THE CELL 'sum', in the pinned program and in every row, IS THE sha256 OF THE DUMP (.gsa) THAT YbulkbsreFmtProg.lean LOADS. Nothing in Lean hashes anything: it is a label: what it is worth is what the hold of that sum in a sandbox is worth. -/
noncomputable def Ybaf.pinned : Pinned := { name := "ybulkbsrefmt", sum := "9f8c2c9eb7f76370ed67296059aa01f5c2e25eeee3bb2bc14e048a7d27a1d63f", checked := Ybaf.checked }
namespace Rows
def none {H : Type} : Left H := { results := [], args := [] }

/-- 'segel.LawS3462AMatchesModel': WHATEVER THE INPUT: true; the input reads as it did. -/
def lawS3462AMatchesModelSpec : ChangeSpec := { name := "lawS3462AMatchesModel", fn := fun _ => fun
  | [d1, d2, d3] => { results := [.lit (.bool true)], args := [d1, d2, d3] }
  | _ => none }
def lawS3462AMatchesModelRow : OpenClaim := { program := "ybulkbsrefmt", sum := "9f8c2c9eb7f76370ed67296059aa01f5c2e25eeee3bb2bc14e048a7d27a1d63f", func := "example.com/segel/segel.LawS3462AMatchesModel", spec := "lawS3462AMatchesModel", stops := ["fmt.Sprintf, its operands' methods called"], inPlace := ["fmt.Sprintf"], unfollowed := true, recurses := true, apart := false }
/-- NO THEOREM (fmt's text is open here; it may be false): for the released tool's asking of the row's closed facts alone. THE STATEMENT IS 'LawS3462AMatchesModelToldSaid' (YbulkbsreFmtCards.lean). -/
def LawS3462AMatchesModelFormAsk : Prop := lawS3462AMatchesModelRow.holds Ybaf.pinned (OpenSpec.ofChange lawS3462AMatchesModelSpec)

/-- ITS FALSE NEIGHBOUR: 'it returns false'. Refute it at one input. -/
def lawS3462AMatchesModelWrong : ChangeSpec := { name := "lawS3462AMatchesModel", fn := fun _ => fun
  | [d1, d2, d3] => { results := [.lit (.bool false)], args := [d1, d2, d3] }
  | _ => none }
def LawS3462AMatchesModelWrongFormAsk : Prop := lawS3462AMatchesModelRow.holds Ybaf.pinned (OpenSpec.ofChange lawS3462AMatchesModelWrong)

end Rows
end Go.Proofs.YbulkbsreFmt
