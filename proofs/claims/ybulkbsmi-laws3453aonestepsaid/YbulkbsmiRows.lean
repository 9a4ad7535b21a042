/-
  No cell of these rows narrows 'for every input' (looked for: loops, veiled, ifaces, maps, wideKeys, modest, calm, conditions, laid).
  DERIVED. THE GIVEN ROWS OF THIS SEAT. 2 by the template 'for every input the law returns true; each argument reads behind the call as it read before'; 0 by the template 'total and deterministic' (their statements: YbulkbsmiTotals.lean).
  GIVEN WITH THE SEED: the statements are not yours to turn. If you find one false, say at which input.
  Laid BY PROGRAM, IN A SANDBOX (cutbox-rows.mjs): the forced cells as the released guide's own fill.sh prints them over the translation 7420862c95d0cf1d… (all of the seat's roots in one cut). By AI agents, Wed Nov 11 2026. No macro, syntax, notation, axiom, sorry.
-/
import Derived.Test.YbulkbsmiChecked
import GoSem.Claim
import GoSem.ClaimJoined
import GoSem.ClaimMapViews
import Derived.JoinedTies
import Derived.KernelRfl
namespace Go.Proofs.Ybulkbsmi
/- THE CELL 'sum', in the pinned program and in every row, IS THE sha256 OF THE DUMP (.gsa) THAT YbulkbsmiProg.lean LOADS. Nothing in Lean hashes anything: it is a label: what it is worth is what the hold of that sum in a sandbox is worth. -/
noncomputable def Yba.pinned : Pinned := { name := "ybulkbsmi", sum := "7420862c95d0cf1dd893c4ea4480ce124cdb7ce4e5d58d81fb2a2a865c5d0e4a", checked := Yba.checked }
namespace Rows
def none {H : Type} : Left H := { results := [], args := [] }

/-- 'plimsoll.LawS3453AKeepsInOrder': WHATEVER THE INPUT: true; the input reads as it did. -/
def lawS3453AKeepsInOrderSpec : ChangeSpec := { name := "lawS3453AKeepsInOrder", fn := fun _ => fun
  | [d1, d2] => { results := [.lit (.bool true)], args := [d1, d2] }
  | _ => none }
def lawS3453AKeepsInOrderRow : OpenClaim := { program := "ybulkbsmi", sum := "7420862c95d0cf1dd893c4ea4480ce124cdb7ce4e5d58d81fb2a2a865c5d0e4a", func := "example.com/plimsoll/plimsoll.LawS3453AKeepsInOrder", spec := "lawS3453AKeepsInOrder", apart := false }
def LawS3453AKeepsInOrderSaid : Prop := lawS3453AKeepsInOrderRow.holds Yba.pinned (OpenSpec.ofChange lawS3453AKeepsInOrderSpec)

/-- ITS FALSE NEIGHBOUR: 'it returns false'. Refute it at one input. -/
def lawS3453AKeepsInOrderWrong : ChangeSpec := { name := "lawS3453AKeepsInOrder", fn := fun _ => fun
  | [d1, d2] => { results := [.lit (.bool false)], args := [d1, d2] }
  | _ => none }
def LawS3453AKeepsInOrderWrongFalsely : Prop := lawS3453AKeepsInOrderRow.holds Yba.pinned (OpenSpec.ofChange lawS3453AKeepsInOrderWrong)

/-- 'plimsoll.LawS3453AOneStep': WHATEVER THE INPUT: true; the input reads as it did. -/
def lawS3453AOneStepSpec : ChangeSpec := { name := "lawS3453AOneStep", fn := fun _ => fun
  | [d1, d2, d3, d4] => { results := [.lit (.bool true)], args := [d1, d2, d3, d4] }
  | _ => none }
def lawS3453AOneStepRow : OpenClaim := { program := "ybulkbsmi", sum := "7420862c95d0cf1dd893c4ea4480ce124cdb7ce4e5d58d81fb2a2a865c5d0e4a", func := "example.com/plimsoll/plimsoll.LawS3453AOneStep", spec := "lawS3453AOneStep", apart := false }
def LawS3453AOneStepSaid : Prop := lawS3453AOneStepRow.holds Yba.pinned (OpenSpec.ofChange lawS3453AOneStepSpec)

/-- ITS FALSE NEIGHBOUR: 'it returns false'. Refute it at one input. -/
def lawS3453AOneStepWrong : ChangeSpec := { name := "lawS3453AOneStep", fn := fun _ => fun
  | [d1, d2, d3, d4] => { results := [.lit (.bool false)], args := [d1, d2, d3, d4] }
  | _ => none }
def LawS3453AOneStepWrongFalsely : Prop := lawS3453AOneStepRow.holds Yba.pinned (OpenSpec.ofChange lawS3453AOneStepWrong)

end Rows
end Go.Proofs.Ybulkbsmi
