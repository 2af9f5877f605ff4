/-
  No cell of these rows narrows 'for every input' (looked for: loops, veiled, ifaces, maps, wideKeys, modest, calm, conditions, laid).
  DERIVED. THE GIVEN ROWS OF THIS SEAT. 2 by the template 'for every input the law returns true; each argument reads behind the call as it read before'; 0 by the template 'total and deterministic' (their statements: YbulkblluTotals.lean).
  GIVEN WITH THE SEED: the statements are not yours to turn. If you find one false, say at which input.
  Laid BY PROGRAM, IN A SANDBOX (cutbox-rows.mjs): the forced cells as the released guide's own fill.sh prints them over the translation 0ad8aa19d7f1b6f8… (all of the seat's roots in one cut). By AI agents, Wed Nov 11 2026. No macro, syntax, notation, axiom, sorry.
-/
import Derived.Test.YbulkblluChecked
import GoSem.Claim
import GoSem.ClaimJoined
import GoSem.ClaimMapViews
import Derived.JoinedTies
import Derived.KernelRfl
namespace Go.Proofs.Ybulkbllu
/- THE CELL 'sum', in the pinned program and in every row, IS THE sha256 OF THE DUMP (.gsa) THAT YbulkblluProg.lean LOADS. Nothing in Lean hashes anything: it is a label: what it is worth is what the hold of that sum in a sandbox is worth. -/
noncomputable def Yba.pinned : Pinned := { name := "ybulkbllu", sum := "0ad8aa19d7f1b6f8af467fed38c9c741f82d951a4cf66306677bb24bc8b8b084", checked := Yba.checked }
namespace Rows
def none {H : Type} : Left H := { results := [], args := [] }

/-- 'register.LawS3114CModel': WHATEVER THE INPUT: true; the input reads as it did. -/
def lawS3114CModelSpec : ChangeSpec := { name := "lawS3114CModel", fn := fun _ => fun
  | [d1, d2, d3] => { results := [.lit (.bool true)], args := [d1, d2, d3] }
  | _ => none }
def lawS3114CModelRow : OpenClaim := { program := "ybulkbllu", sum := "0ad8aa19d7f1b6f8af467fed38c9c741f82d951a4cf66306677bb24bc8b8b084", func := "example.com/recuse/recuse/pkg/register.LawS3114CModel", spec := "lawS3114CModel", apart := false }
def LawS3114CModelSaid : Prop := lawS3114CModelRow.holds Yba.pinned (OpenSpec.ofChange lawS3114CModelSpec)

/-- ITS FALSE NEIGHBOUR: 'it returns false'. Refute it at one input. -/
def lawS3114CModelWrong : ChangeSpec := { name := "lawS3114CModel", fn := fun _ => fun
  | [d1, d2, d3] => { results := [.lit (.bool false)], args := [d1, d2, d3] }
  | _ => none }
def LawS3114CModelWrongFalsely : Prop := lawS3114CModelRow.holds Yba.pinned (OpenSpec.ofChange lawS3114CModelWrong)

/-- 'register.LawS3114CPicked': WHATEVER THE INPUT: true; the input reads as it did. -/
def lawS3114CPickedSpec : ChangeSpec := { name := "lawS3114CPicked", fn := fun _ => fun
  | [d1, d2, d3, d4, d5] => { results := [.lit (.bool true)], args := [d1, d2, d3, d4, d5] }
  | _ => none }
def lawS3114CPickedRow : OpenClaim := { program := "ybulkbllu", sum := "0ad8aa19d7f1b6f8af467fed38c9c741f82d951a4cf66306677bb24bc8b8b084", func := "example.com/recuse/recuse/pkg/register.LawS3114CPicked", spec := "lawS3114CPicked", apart := false }
def LawS3114CPickedSaid : Prop := lawS3114CPickedRow.holds Yba.pinned (OpenSpec.ofChange lawS3114CPickedSpec)

/-- ITS FALSE NEIGHBOUR: 'it returns false'. Refute it at one input. -/
def lawS3114CPickedWrong : ChangeSpec := { name := "lawS3114CPicked", fn := fun _ => fun
  | [d1, d2, d3, d4, d5] => { results := [.lit (.bool false)], args := [d1, d2, d3, d4, d5] }
  | _ => none }
def LawS3114CPickedWrongFalsely : Prop := lawS3114CPickedRow.holds Yba.pinned (OpenSpec.ofChange lawS3114CPickedWrong)

end Rows
end Go.Proofs.Ybulkbllu
