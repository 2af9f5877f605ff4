/-
  NARROWER THAN 'FOR EVERY INPUT', by the rows' own cells (each row's printed sentence says how): LawS3114BWords: laid · LawS3114BRoundTrip: laid.
  DERIVED. THE GIVEN ROWS OF THIS SEAT. 2 by the template 'for every input the law returns true; each argument reads behind the call as it read before'; 0 by the template 'total and deterministic' (their statements: YbulkblluFmtTotals.lean).
  GIVEN WITH THE SEED: the statements are not yours to turn. If you find one false, say at which input.
  Laid BY PROGRAM, IN A SANDBOX (cutbox-rows.mjs): the forced cells as the released guide's own fill.sh prints them over the translation 3b119391b5eb1b9c… (all of the seat's roots in one cut). By AI agents, Wed Nov 11 2026. No macro, syntax, notation, axiom, sorry.
-/
import Derived.Test.YbulkblluFmtChecked
import GoSem.Claim
import GoSem.ClaimJoined
import GoSem.ClaimMapViews
import Derived.JoinedTies
import Derived.KernelRfl
namespace Go.Proofs.YbulkblluFmt
/- THE CELL 'sum', in the pinned program and in every row, IS THE sha256 OF THE DUMP (.gsa) THAT YbulkblluFmtProg.lean LOADS. Nothing in Lean hashes anything: it is a label: what it is worth is what the hold of that sum in a sandbox is worth. -/
noncomputable def Ybaf.pinned : Pinned := { name := "ybulkbllufmt", sum := "3b119391b5eb1b9c4422b9fe5675aac3e93ea8f9d4a7b45e8b374759b6115622", checked := Ybaf.checked }
namespace Rows
def none {H : Type} : Left H := { results := [], args := [] }

/- WHAT THE LISTED PACKAGE-LEVEL VARIABLES READ AS WHEN THE CALL BEGINS. Each datum BY PROGRAM (the guide's laid-datum.mjs) off the statement by which the dump's own 'gosem.cut.vars' lays the variable. In a bare row this is a premise. The card (YbulkblluFmtCards.lean) ties it to the program's text. -/
def laid_example_com_recuse_recuse_pkg_register_profileWords {H : Type} : DataW H := .agg [.lit (.string [110, 111, 110, 101]), .lit (.string [115, 122, 115, 101, 45, 109, 97, 105, 110]), .lit (.string [115, 122, 115, 101, 45, 99, 104, 105, 110, 101, 120, 116]), .lit (.string [115, 115, 101, 45, 115, 116, 97, 114])]

/-- 'register.LawS3114BWords': WHATEVER THE INPUT: true; the input reads as it did. -/
def lawS3114BWordsSpec : ChangeSpec := { name := "lawS3114BWords", vars := ["example.com/recuse/recuse/pkg/register.profileWords"], fn := fun _ => fun
  | [d, g1] => { results := [.lit (.bool true)], args := [d], vars := [g1] }
  | _ => none }
def lawS3114BWordsRow : OpenClaim := { program := "ybulkbllufmt", sum := "3b119391b5eb1b9c4422b9fe5675aac3e93ea8f9d4a7b45e8b374759b6115622", func := "example.com/recuse/recuse/pkg/register.LawS3114BWords", spec := "lawS3114BWords", stops := ["fmt.Sprintf", "fmt.errorf"], inPlace := ["fmt.Sprintf"], named := ["example.com/recuse/recuse/pkg/register.profileWords"], apart := false, laid := [("example.com/recuse/recuse/pkg/register.profileWords", laid_example_com_recuse_recuse_pkg_register_profileWords)] }
/-- NO THEOREM (fmt's text is open here; it may be false): for the released tool's asking of the row's closed facts alone. THE STATEMENT IS 'LawS3114BWordsToldSaid' (YbulkblluFmtCards.lean). -/
def LawS3114BWordsFormAsk : Prop := lawS3114BWordsRow.holds Ybaf.pinned (OpenSpec.ofChange lawS3114BWordsSpec)

/-- ITS FALSE NEIGHBOUR: 'it returns false'. Refute it at one input. -/
def lawS3114BWordsWrong : ChangeSpec := { name := "lawS3114BWords", vars := ["example.com/recuse/recuse/pkg/register.profileWords"], fn := fun _ => fun
  | [d, g1] => { results := [.lit (.bool false)], args := [d], vars := [g1] }
  | _ => none }
def LawS3114BWordsWrongFormAsk : Prop := lawS3114BWordsRow.holds Ybaf.pinned (OpenSpec.ofChange lawS3114BWordsWrong)

/-- 'register.LawS3114BRoundTrip': WHATEVER THE INPUT: true; the input reads as it did. -/
def lawS3114BRoundTripSpec : ChangeSpec := { name := "lawS3114BRoundTrip", vars := ["example.com/recuse/recuse/pkg/register.profileWords"], fn := fun _ => fun
  | [d, g1] => { results := [.lit (.bool true)], args := [d], vars := [g1] }
  | _ => none }
def lawS3114BRoundTripRow : OpenClaim := { program := "ybulkbllufmt", sum := "3b119391b5eb1b9c4422b9fe5675aac3e93ea8f9d4a7b45e8b374759b6115622", func := "example.com/recuse/recuse/pkg/register.LawS3114BRoundTrip", spec := "lawS3114BRoundTrip", stops := ["fmt.Sprintf", "fmt.errorf"], inPlace := ["fmt.Sprintf", "internal/abi.NoEscape", "internal/bytealg.MakeNoZero", "fmt.errorf"], named := ["example.com/recuse/recuse/pkg/register.profileWords"], apart := false, laid := [("example.com/recuse/recuse/pkg/register.profileWords", laid_example_com_recuse_recuse_pkg_register_profileWords)] }
/-- NO THEOREM (fmt's text is open here; it may be false): for the released tool's asking of the row's closed facts alone. THE STATEMENT IS 'LawS3114BRoundTripToldSaid' (YbulkblluFmtCards.lean). -/
def LawS3114BRoundTripFormAsk : Prop := lawS3114BRoundTripRow.holds Ybaf.pinned (OpenSpec.ofChange lawS3114BRoundTripSpec)

/-- ITS FALSE NEIGHBOUR: 'it returns false'. Refute it at one input. -/
def lawS3114BRoundTripWrong : ChangeSpec := { name := "lawS3114BRoundTrip", vars := ["example.com/recuse/recuse/pkg/register.profileWords"], fn := fun _ => fun
  | [d, g1] => { results := [.lit (.bool false)], args := [d], vars := [g1] }
  | _ => none }
def LawS3114BRoundTripWrongFormAsk : Prop := lawS3114BRoundTripRow.holds Ybaf.pinned (OpenSpec.ofChange lawS3114BRoundTripWrong)

end Rows
end Go.Proofs.YbulkblluFmt
