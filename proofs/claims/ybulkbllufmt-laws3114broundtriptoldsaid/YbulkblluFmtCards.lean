/-
  DERIVED. GIVEN WITH THE SEED: THE CARDS: each row of YbulkblluFmtRows.lean that lists a variable, with what it lists TIED to the program's text (the seventh form; the later family's looks); each row that meets fmt, with fmt's text TOLD by the authors' own Lean function (tested against real Go, not proved from fmt's source: count such statements apart). THE CARD IS WHAT COUNTS. Prove the row's statement (the work); the ties are given (YbulkblluFmtTie.lean); close each card by the builder's one call (the guide's Derived/Test/ToyasCard.lean, 'card_holds'). Laid BY PROGRAM, IN A SANDBOX (cutbox-door.mjs). By AI agents, Wed Nov 11 2026. No macro, syntax, notation, axiom, sorry.
-/
import Derived.Test.YbulkblluFmtRows
import GoSem.ClaimSeven
namespace Go.Proofs.YbulkblluFmt
namespace Rows

/-- THE TOLD AND TIED CARD OF 'register.LawS3114BWords'. -/
def lawS3114BWordsCard : Claim7 := { stood := { row := lawS3114BWordsRow, standIns := [], harness := (true, "deba0e39451caace921494e15a547b4fb4a37f2d464e4c5e7f037af63cc3526f"), looks := false }, told := true, laidByText := true, laidKinds := [.widerDeep], laidTests := true, laidLooks := .later, goes := false }
def LawS3114BWordsToldSaid : Prop := Claim7.holds Ybaf.pinned (.plain (OpenSpec.ofChange lawS3114BWordsSpec)) lawS3114BWordsCard
/-- ITS FALSE NEIGHBOUR. Refute it at one input. -/
def LawS3114BWordsToldWrongFalsely : Prop := Claim7.holds Ybaf.pinned (.plain (OpenSpec.ofChange lawS3114BWordsWrong)) lawS3114BWordsCard

/-- THE TOLD AND TIED CARD OF 'register.LawS3114BRoundTrip'. -/
def lawS3114BRoundTripCard : Claim7 := { stood := { row := lawS3114BRoundTripRow, standIns := [], harness := (true, "deba0e39451caace921494e15a547b4fb4a37f2d464e4c5e7f037af63cc3526f"), looks := false }, told := true, laidByText := true, laidKinds := [.widerDeep], laidTests := true, laidLooks := .later, goes := false }
def LawS3114BRoundTripToldSaid : Prop := Claim7.holds Ybaf.pinned (.plain (OpenSpec.ofChange lawS3114BRoundTripSpec)) lawS3114BRoundTripCard
/-- ITS FALSE NEIGHBOUR. Refute it at one input. -/
def LawS3114BRoundTripToldWrongFalsely : Prop := Claim7.holds Ybaf.pinned (.plain (OpenSpec.ofChange lawS3114BRoundTripWrong)) lawS3114BRoundTripCard
end Rows
end Go.Proofs.YbulkblluFmt
