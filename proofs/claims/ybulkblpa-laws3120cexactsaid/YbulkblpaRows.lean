/-
  No cell of these rows narrows 'for every input' (looked for: loops, veiled, ifaces, maps, wideKeys, modest, calm, conditions, laid).
  DERIVED. THE GIVEN ROWS OF THIS SEAT. 2 by the template 'for every input the law returns true; each argument reads behind the call as it read before'; 0 by the template 'total and deterministic' (their statements: YbulkblpaTotals.lean).
  GIVEN WITH THE SEED: the statements are not yours to turn. If you find one false, say at which input.
  Laid BY PROGRAM, IN A SANDBOX (cutbox-rows.mjs): the forced cells as the released guide's own fill.sh prints them over the translation f7b32878b147c57a… (all of the seat's roots in one cut). By AI agents, Wed Nov 11 2026. No macro, syntax, notation, axiom, sorry.
-/
import Derived.Test.YbulkblpaChecked
import GoSem.Claim
import GoSem.ClaimJoined
import GoSem.ClaimMapViews
import Derived.JoinedTies
import Derived.KernelRfl
namespace Go.Proofs.Ybulkblpa
/- THE CELL 'sum', in the pinned program and in every row, IS THE sha256 OF THE DUMP (.gsa) THAT YbulkblpaProg.lean LOADS. Nothing in Lean hashes anything: it is a label: what it is worth is what the hold of that sum in a sandbox is worth. -/
noncomputable def Yba.pinned : Pinned := { name := "ybulkblpa", sum := "f7b32878b147c57a4587876011227ae397392ccf6b277c8d47ab58492157b062", checked := Yba.checked }
namespace Rows
def none {H : Type} : Left H := { results := [], args := [] }

/-- 'storage.LawS3120CExact': WHATEVER THE INPUT: true; the input reads as it did. -/
def lawS3120CExactSpec : ChangeSpec := { name := "lawS3120CExact", fn := fun _ => fun
  | [d1, d2, d3, d4, d5, d6, d7, d8, d9, d10, d11] => { results := [.lit (.bool true)], args := [d1, d2, d3, d4, d5, d6, d7, d8, d9, d10, d11] }
  | _ => none }
def lawS3120CExactRow : OpenClaim := { program := "ybulkblpa", sum := "f7b32878b147c57a4587876011227ae397392ccf6b277c8d47ab58492157b062", func := "example.com/seriatim/seriatim/internal/storage.LawS3120CExact", spec := "lawS3120CExact", inPlace := ["internal/bytealg.abigen_runtime_cmpstring"], apart := false }
def LawS3120CExactSaid : Prop := lawS3120CExactRow.holds Yba.pinned (OpenSpec.ofChange lawS3120CExactSpec)

/-- ITS FALSE NEIGHBOUR: 'it returns false'. Refute it at one input. -/
def lawS3120CExactWrong : ChangeSpec := { name := "lawS3120CExact", fn := fun _ => fun
  | [d1, d2, d3, d4, d5, d6, d7, d8, d9, d10, d11] => { results := [.lit (.bool false)], args := [d1, d2, d3, d4, d5, d6, d7, d8, d9, d10, d11] }
  | _ => none }
def LawS3120CExactWrongFalsely : Prop := lawS3120CExactRow.holds Yba.pinned (OpenSpec.ofChange lawS3120CExactWrong)

/-- 'storage.LawS3120CAtLow': WHATEVER THE INPUT: true; the input reads as it did. -/
def lawS3120CAtLowSpec : ChangeSpec := { name := "lawS3120CAtLow", fn := fun _ => fun
  | [d1, d2, d3, d4, d5, d6, d7, d8] => { results := [.lit (.bool true)], args := [d1, d2, d3, d4, d5, d6, d7, d8] }
  | _ => none }
def lawS3120CAtLowRow : OpenClaim := { program := "ybulkblpa", sum := "f7b32878b147c57a4587876011227ae397392ccf6b277c8d47ab58492157b062", func := "example.com/seriatim/seriatim/internal/storage.LawS3120CAtLow", spec := "lawS3120CAtLow", inPlace := ["internal/bytealg.abigen_runtime_cmpstring"], apart := false }
def LawS3120CAtLowSaid : Prop := lawS3120CAtLowRow.holds Yba.pinned (OpenSpec.ofChange lawS3120CAtLowSpec)

/-- ITS FALSE NEIGHBOUR: 'it returns false'. Refute it at one input. -/
def lawS3120CAtLowWrong : ChangeSpec := { name := "lawS3120CAtLow", fn := fun _ => fun
  | [d1, d2, d3, d4, d5, d6, d7, d8] => { results := [.lit (.bool false)], args := [d1, d2, d3, d4, d5, d6, d7, d8] }
  | _ => none }
def LawS3120CAtLowWrongFalsely : Prop := lawS3120CAtLowRow.holds Yba.pinned (OpenSpec.ofChange lawS3120CAtLowWrong)

end Rows
end Go.Proofs.Ybulkblpa
