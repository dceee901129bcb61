/-
  DERIVED. GIVEN WITH THE SEED: THE CARDS: each row of YbulkjjwFmtRows.lean that lists a variable, with what it lists TIED to the program's text (the seventh form; the later family's looks); each row that meets fmt, with fmt's text TOLD by the authors' own Lean function (tested against real Go, not proved from fmt's source: count such statements apart). THE CARD IS WHAT COUNTS. Prove the row's statement (the work); the ties are given (YbulkjjwFmtTie.lean); close each card by the builder's one call (the guide's Derived/Test/ToyasCard.lean, 'card_holds'). Laid BY PROGRAM, IN A SANDBOX (cutbox-door.mjs). By AI agents, Wed Nov 11 2026. No macro, syntax, notation, axiom, sorry.
-/
import Derived.Test.YbulkjjwFmtRows
import GoSem.ClaimSeven
namespace Go.Proofs.YbulkjjwFmt
namespace Rows

/-- THE TOLD AND TIED CARD OF 'wire.LawS0503BRoundTrip'. -/
def lawS0503BRoundTripCard : Claim7 := { stood := { row := lawS0503BRoundTripRow, standIns := [], harness := (true, "2535168c873aadb3e2cc8af725b42446535a863c4a3bab9ef935ccc35b4ed22e"), looks := true }, told := true, laidByText := true, laidKinds := [.sentinel, .sentinel, .sentinel, .sentinel, .sentinel], laidTests := true, laidLooks := .later, goes := false }
def LawS0503BRoundTripToldSaid : Prop := Claim7.holds Ybaf.pinned (.plain (OpenSpec.ofChange lawS0503BRoundTripSpec)) lawS0503BRoundTripCard
/-- ITS FALSE NEIGHBOUR. Refute it at one input. -/
def LawS0503BRoundTripToldWrongFalsely : Prop := Claim7.holds Ybaf.pinned (.plain (OpenSpec.ofChange lawS0503BRoundTripWrong)) lawS0503BRoundTripCard
end Rows
end Go.Proofs.YbulkjjwFmt
