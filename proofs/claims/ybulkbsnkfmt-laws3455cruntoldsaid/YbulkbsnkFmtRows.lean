/-
  No cell of these rows narrows 'for every input' (looked for: loops, veiled, ifaces, maps, wideKeys, modest, calm, conditions, laid).
  DERIVED. THE GIVEN ROWS OF THIS SEAT. 1 by the template 'for every input the law returns true; each argument reads behind the call as it read before'; 0 by the template 'total and deterministic' (their statements: YbulkbsnkFmtTotals.lean).
  GIVEN WITH THE SEED: the statements are not yours to turn. If you find one false, say at which input.
  Laid BY PROGRAM, IN A SANDBOX (cutbox-rows.mjs): the forced cells as the released guide's own fill.sh prints them over the translation a7f28382eb54fc84… (all of the seat's roots in one cut). By AI agents, Wed Nov 11 2026. No macro, syntax, notation, axiom, sorry.
-/
import Derived.Test.YbulkbsnkFmtChecked
import GoSem.Claim
import GoSem.ClaimJoined
import GoSem.ClaimMapViews
import Derived.JoinedTies
import Derived.KernelRfl
namespace Go.Proofs.YbulkbsnkFmt
/- THE CELL 'sum', in the pinned program and in every row, IS THE sha256 OF THE DUMP (.gsa) THAT YbulkbsnkFmtProg.lean LOADS. Nothing in Lean hashes anything: it is a label: what it is worth is what the hold of that sum in a sandbox is worth. -/
noncomputable def Ybaf.pinned : Pinned := { name := "ybulkbsnkfmt", sum := "a7f28382eb54fc84b205a256e2a14cb153b21b286833c0a4bd19428d4e5d5ff8", checked := Ybaf.checked }
namespace Rows
def none {H : Type} : Left H := { results := [], args := [] }

/-- 'sim.LawS3455CRun': WHATEVER THE INPUT: true; the input reads as it did. -/
def lawS3455CRunSpec : ChangeSpec := { name := "lawS3455CRun", fn := fun _ => fun
  | [d1, d2, d3, d4, d5, d6] => { results := [.lit (.bool true)], args := [d1, d2, d3, d4, d5, d6] }
  | _ => none }
def lawS3455CRunRow : OpenClaim := { program := "ybulkbsnkfmt", sum := "a7f28382eb54fc84b205a256e2a14cb153b21b286833c0a4bd19428d4e5d5ff8", func := "example.com/fusillade/fusillade/internal/sim.LawS3455CRun", spec := "lawS3455CRun", stops := ["fmt.Sprintf"], inPlace := ["fmt.Sprintf"], unfollowed := true, recurses := true, apart := false }
/-- NO THEOREM (fmt's text is open here; it may be false): for the released tool's asking of the row's closed facts alone. THE STATEMENT IS 'LawS3455CRunToldSaid' (YbulkbsnkFmtCards.lean). -/
def LawS3455CRunFormAsk : Prop := lawS3455CRunRow.holds Ybaf.pinned (OpenSpec.ofChange lawS3455CRunSpec)

/-- ITS FALSE NEIGHBOUR: 'it returns false'. Refute it at one input. -/
def lawS3455CRunWrong : ChangeSpec := { name := "lawS3455CRun", fn := fun _ => fun
  | [d1, d2, d3, d4, d5, d6] => { results := [.lit (.bool false)], args := [d1, d2, d3, d4, d5, d6] }
  | _ => none }
def LawS3455CRunWrongFormAsk : Prop := lawS3455CRunRow.holds Ybaf.pinned (OpenSpec.ofChange lawS3455CRunWrong)

end Rows
end Go.Proofs.YbulkbsnkFmt
