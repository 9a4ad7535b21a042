/-
  No cell of these rows narrows 'for every input' (looked for: loops, veiled, ifaces, maps, wideKeys, modest, calm, conditions, laid).
  DERIVED. THE GIVEN ROWS OF THIS SEAT. 2 by the template 'for every input the law returns true; each argument reads behind the call as it read before'; 0 by the template 'total and deterministic' (their statements: YbulkbslgTotals.lean).
  GIVEN WITH THE SEED: the statements are not yours to turn. If you find one false, say at which input.
  Laid BY PROGRAM, IN A SANDBOX (cutbox-rows.mjs): the forced cells as the released guide's own fill.sh prints them over the translation 86d1336e726121af… (all of the seat's roots in one cut). By AI agents, Wed Nov 11 2026. No macro, syntax, notation, axiom, sorry.
-/
import Derived.Test.YbulkbslgChecked
import GoSem.Claim
import GoSem.ClaimJoined
import GoSem.ClaimMapViews
import Derived.JoinedTies
import Derived.KernelRfl
namespace Go.Proofs.Ybulkbslg
/- THE CELL 'sum', in the pinned program and in every row, IS THE sha256 OF THE DUMP (.gsa) THAT YbulkbslgProg.lean LOADS. Nothing in Lean hashes anything: it is a label: what it is worth is what the hold of that sum in a sandbox is worth. -/
noncomputable def Yba.pinned : Pinned := { name := "ybulkbslg", sum := "86d1336e726121af2d74d76157a6633f7e404306a749332ab4a22e6dfc559fbe", checked := Yba.checked }
namespace Rows
def none {H : Type} : Left H := { results := [], args := [] }

/-- 'schedule.LawS3451CModel': WHATEVER THE INPUT: true; the input reads as it did. -/
def lawS3451CModelSpec : ChangeSpec := { name := "lawS3451CModel", fn := fun _ => fun
  | [d1, d2] => { results := [.lit (.bool true)], args := [d1, d2] }
  | _ => none }
def lawS3451CModelRow : OpenClaim := { program := "ybulkbslg", sum := "86d1336e726121af2d74d76157a6633f7e404306a749332ab4a22e6dfc559fbe", func := "example.com/tollbook/tollbook/internal/schedule.LawS3451CModel", spec := "lawS3451CModel", unfollowed := true, recurses := true, apart := false }
def LawS3451CModelSaid : Prop := lawS3451CModelRow.holds Yba.pinned (OpenSpec.ofChange lawS3451CModelSpec)

/-- ITS FALSE NEIGHBOUR: 'it returns false'. Refute it at one input. -/
def lawS3451CModelWrong : ChangeSpec := { name := "lawS3451CModel", fn := fun _ => fun
  | [d1, d2] => { results := [.lit (.bool false)], args := [d1, d2] }
  | _ => none }
def LawS3451CModelWrongFalsely : Prop := lawS3451CModelRow.holds Yba.pinned (OpenSpec.ofChange lawS3451CModelWrong)

/-- 'schedule.LawS3451CUnion': WHATEVER THE INPUT: true; the input reads as it did. -/
def lawS3451CUnionSpec : ChangeSpec := { name := "lawS3451CUnion", fn := fun _ => fun
  | [d1, d2] => { results := [.lit (.bool true)], args := [d1, d2] }
  | _ => none }
def lawS3451CUnionRow : OpenClaim := { program := "ybulkbslg", sum := "86d1336e726121af2d74d76157a6633f7e404306a749332ab4a22e6dfc559fbe", func := "example.com/tollbook/tollbook/internal/schedule.LawS3451CUnion", spec := "lawS3451CUnion", unfollowed := true, recurses := true, apart := false }
def LawS3451CUnionSaid : Prop := lawS3451CUnionRow.holds Yba.pinned (OpenSpec.ofChange lawS3451CUnionSpec)

/-- ITS FALSE NEIGHBOUR: 'it returns false'. Refute it at one input. -/
def lawS3451CUnionWrong : ChangeSpec := { name := "lawS3451CUnion", fn := fun _ => fun
  | [d1, d2] => { results := [.lit (.bool false)], args := [d1, d2] }
  | _ => none }
def LawS3451CUnionWrongFalsely : Prop := lawS3451CUnionRow.holds Yba.pinned (OpenSpec.ofChange lawS3451CUnionWrong)

end Rows
end Go.Proofs.Ybulkbslg
