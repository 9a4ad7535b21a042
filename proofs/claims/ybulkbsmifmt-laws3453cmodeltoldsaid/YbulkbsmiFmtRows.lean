/-
  NARROWER THAN 'FOR EVERY INPUT', by the rows' own cells (each row's printed sentence says how): LawS3453CModel: ifaces, laid · LawS3453CDigits: ifaces, laid.
  DERIVED. THE GIVEN ROWS OF THIS SEAT. 2 by the template 'for every input the law returns true; each argument reads behind the call as it read before'; 0 by the template 'total and deterministic' (their statements: YbulkbsmiFmtTotals.lean).
  GIVEN WITH THE SEED: the statements are not yours to turn. If you find one false, say at which input.
  Laid BY PROGRAM, IN A SANDBOX (cutbox-rows.mjs): the forced cells as the released guide's own fill.sh prints them over the translation 6b7fe0b6522f06b0… (all of the seat's roots in one cut). By AI agents, Wed Nov 11 2026. No macro, syntax, notation, axiom, sorry.
-/
import Derived.Test.YbulkbsmiFmtChecked
import GoSem.Claim
import GoSem.ClaimJoined
import GoSem.ClaimMapViews
import Derived.JoinedTies
import Derived.KernelRfl
namespace Go.Proofs.YbulkbsmiFmt
/- THE CELL 'sum', in the pinned program and in every row, IS THE sha256 OF THE DUMP (.gsa) THAT YbulkbsmiFmtProg.lean LOADS. Nothing in Lean hashes anything: it is a label: what it is worth is what the hold of that sum in a sandbox is worth. -/
noncomputable def Ybaf.pinned : Pinned := { name := "ybulkbsmifmt", sum := "6b7fe0b6522f06b0d9569e007e81969d432a8a7f53e0c12178a8a3f1a862a291", checked := Ybaf.checked }
namespace Rows
def none {H : Type} : Left H := { results := [], args := [] }

/- WHAT THE LISTED PACKAGE-LEVEL VARIABLES READ AS WHEN THE CALL BEGINS. Each datum BY PROGRAM (the guide's laid-datum.mjs) off the statement by which the dump's own 'gosem.cut.vars' lays the variable. In a bare row this is a premise. The card (YbulkbsmiFmtCards.lean) ties it to the program's text. -/
def laid_example_com_plimsoll_plimsoll_internal_strictjson_ErrSyntax {H : Type} : DataW H := .iface "*errors.errorString" (.ptr (.agg [.lit (.string [105, 110, 118, 97, 108, 105, 100, 32, 74, 83, 79, 78])]))

/-- 'strictjson.LawS3453CModel': WHATEVER THE INPUT: true; the input reads as it did. -/
def lawS3453CModelSpec : ChangeSpec := { name := "lawS3453CModel", vars := ["example.com/plimsoll/plimsoll/internal/strictjson.ErrSyntax"], fn := fun _ => fun
  | [d1, d2, g1] => { results := [.lit (.bool true)], args := [d1, d2], vars := [g1] }
  | _ => none }
def lawS3453CModelRow : OpenClaim := { program := "ybulkbsmifmt", sum := "6b7fe0b6522f06b0d9569e007e81969d432a8a7f53e0c12178a8a3f1a862a291", func := "example.com/plimsoll/plimsoll/internal/strictjson.LawS3453CModel", spec := "lawS3453CModel", stops := ["fmt.errorf"], inPlace := ["fmt.errorf", "internal/reflectlite.TypeOf"], unfollowed := true, recurses := true, named := ["example.com/plimsoll/plimsoll/internal/strictjson.ErrSyntax"], ifaces := true, apart := false, laid := [("example.com/plimsoll/plimsoll/internal/strictjson.ErrSyntax", laid_example_com_plimsoll_plimsoll_internal_strictjson_ErrSyntax)] }
/-- NO THEOREM (fmt's text is open here; it may be false): for the released tool's asking of the row's closed facts alone. THE STATEMENT IS 'LawS3453CModelToldSaid' (YbulkbsmiFmtCards.lean). -/
def LawS3453CModelFormAsk : Prop := lawS3453CModelRow.holds Ybaf.pinned (OpenSpec.ofChange lawS3453CModelSpec)

/-- ITS FALSE NEIGHBOUR: 'it returns false'. Refute it at one input. -/
def lawS3453CModelWrong : ChangeSpec := { name := "lawS3453CModel", vars := ["example.com/plimsoll/plimsoll/internal/strictjson.ErrSyntax"], fn := fun _ => fun
  | [d1, d2, g1] => { results := [.lit (.bool false)], args := [d1, d2], vars := [g1] }
  | _ => none }
def LawS3453CModelWrongFormAsk : Prop := lawS3453CModelRow.holds Ybaf.pinned (OpenSpec.ofChange lawS3453CModelWrong)

/-- 'strictjson.LawS3453CDigits': WHATEVER THE INPUT: true; the input reads as it did. -/
def lawS3453CDigitsSpec : ChangeSpec := { name := "lawS3453CDigits", vars := ["example.com/plimsoll/plimsoll/internal/strictjson.ErrSyntax"], fn := fun _ => fun
  | [d1, d2, d3, g1] => { results := [.lit (.bool true)], args := [d1, d2, d3], vars := [g1] }
  | _ => none }
def lawS3453CDigitsRow : OpenClaim := { program := "ybulkbsmifmt", sum := "6b7fe0b6522f06b0d9569e007e81969d432a8a7f53e0c12178a8a3f1a862a291", func := "example.com/plimsoll/plimsoll/internal/strictjson.LawS3453CDigits", spec := "lawS3453CDigits", stops := ["fmt.errorf"], inPlace := ["fmt.errorf"], named := ["example.com/plimsoll/plimsoll/internal/strictjson.ErrSyntax"], ifaces := true, apart := false, laid := [("example.com/plimsoll/plimsoll/internal/strictjson.ErrSyntax", laid_example_com_plimsoll_plimsoll_internal_strictjson_ErrSyntax)] }
/-- NO THEOREM (fmt's text is open here; it may be false): for the released tool's asking of the row's closed facts alone. THE STATEMENT IS 'LawS3453CDigitsToldSaid' (YbulkbsmiFmtCards.lean). -/
def LawS3453CDigitsFormAsk : Prop := lawS3453CDigitsRow.holds Ybaf.pinned (OpenSpec.ofChange lawS3453CDigitsSpec)

/-- ITS FALSE NEIGHBOUR: 'it returns false'. Refute it at one input. -/
def lawS3453CDigitsWrong : ChangeSpec := { name := "lawS3453CDigits", vars := ["example.com/plimsoll/plimsoll/internal/strictjson.ErrSyntax"], fn := fun _ => fun
  | [d1, d2, d3, g1] => { results := [.lit (.bool false)], args := [d1, d2, d3], vars := [g1] }
  | _ => none }
def LawS3453CDigitsWrongFormAsk : Prop := lawS3453CDigitsRow.holds Ybaf.pinned (OpenSpec.ofChange lawS3453CDigitsWrong)

end Rows
end Go.Proofs.YbulkbsmiFmt
