/-
  No cell of these rows narrows 'for every input' (looked for: loops, veiled, ifaces, maps, wideKeys, modest, calm, conditions, laid).
  DERIVED. THE GIVEN ROWS OF THIS SEAT. 2 by the template 'for every input the law returns true; each argument reads behind the call as it read before'; 0 by the template 'total and deterministic' (their statements: YbulkblnkTotals.lean).
  GIVEN WITH THE SEED: the statements are not yours to turn. If you find one false, say at which input.
  Laid BY PROGRAM, IN A SANDBOX (cutbox-rows.mjs): the forced cells as the released guide's own fill.sh prints them over the translation 0b0919edb547405c… (all of the seat's roots in one cut). By AI agents, Wed Nov 11 2026. No macro, syntax, notation, axiom, sorry.
-/
import Derived.Test.YbulkblnkChecked
import GoSem.Claim
import GoSem.ClaimJoined
import GoSem.ClaimMapViews
import Derived.JoinedTies
import Derived.KernelRfl
namespace Go.Proofs.Ybulkblnk
/- THE CELL 'sum', in the pinned program and in every row, IS THE sha256 OF THE DUMP (.gsa) THAT YbulkblnkProg.lean LOADS. Nothing in Lean hashes anything: it is a label: what it is worth is what the hold of that sum in a sandbox is worth. -/
noncomputable def Yba.pinned : Pinned := { name := "ybulkblnk", sum := "0b0919edb547405c7ee79650712aba3f6e634c29d562ebaa4c672c5d6b488c36", checked := Yba.checked }
namespace Rows
def none {H : Type} : Left H := { results := [], args := [] }

/-- 'sim.LawS3117BUncount': WHATEVER THE INPUT: true; the input reads as it did. -/
def lawS3117BUncountSpec : ChangeSpec := { name := "lawS3117BUncount", fn := fun _ => fun
  | [d1, d2, d3, d4, d5, d6, d7, d8] => { results := [.lit (.bool true)], args := [d1, d2, d3, d4, d5, d6, d7, d8] }
  | _ => none }
def lawS3117BUncountRow : OpenClaim := { program := "ybulkblnk", sum := "0b0919edb547405c7ee79650712aba3f6e634c29d562ebaa4c672c5d6b488c36", func := "example.com/hourvane/hourvane/sim.LawS3117BUncount", spec := "lawS3117BUncount", apart := false }
def LawS3117BUncountSaid : Prop := lawS3117BUncountRow.holds Yba.pinned (OpenSpec.ofChange lawS3117BUncountSpec)

/-- ITS FALSE NEIGHBOUR: 'it returns false'. Refute it at one input. -/
def lawS3117BUncountWrong : ChangeSpec := { name := "lawS3117BUncount", fn := fun _ => fun
  | [d1, d2, d3, d4, d5, d6, d7, d8] => { results := [.lit (.bool false)], args := [d1, d2, d3, d4, d5, d6, d7, d8] }
  | _ => none }
def LawS3117BUncountWrongFalsely : Prop := lawS3117BUncountRow.holds Yba.pinned (OpenSpec.ofChange lawS3117BUncountWrong)

/-- 'sim.LawS3117CAdmit': WHATEVER THE INPUT: true; the input reads as it did. -/
def lawS3117CAdmitSpec : ChangeSpec := { name := "lawS3117CAdmit", fn := fun _ => fun
  | [d1, d2, d3, d4, d5, d6, d7] => { results := [.lit (.bool true)], args := [d1, d2, d3, d4, d5, d6, d7] }
  | _ => none }
def lawS3117CAdmitRow : OpenClaim := { program := "ybulkblnk", sum := "0b0919edb547405c7ee79650712aba3f6e634c29d562ebaa4c672c5d6b488c36", func := "example.com/hourvane/hourvane/sim.LawS3117CAdmit", spec := "lawS3117CAdmit", unfollowed := true, recurses := true, apart := false }
def LawS3117CAdmitSaid : Prop := lawS3117CAdmitRow.holds Yba.pinned (OpenSpec.ofChange lawS3117CAdmitSpec)

/-- ITS FALSE NEIGHBOUR: 'it returns false'. Refute it at one input. -/
def lawS3117CAdmitWrong : ChangeSpec := { name := "lawS3117CAdmit", fn := fun _ => fun
  | [d1, d2, d3, d4, d5, d6, d7] => { results := [.lit (.bool false)], args := [d1, d2, d3, d4, d5, d6, d7] }
  | _ => none }
def LawS3117CAdmitWrongFalsely : Prop := lawS3117CAdmitRow.holds Yba.pinned (OpenSpec.ofChange lawS3117CAdmitWrong)

end Rows
end Go.Proofs.Ybulkblnk
