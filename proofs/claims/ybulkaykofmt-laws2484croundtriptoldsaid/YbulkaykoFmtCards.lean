/-
  DERIVED. GIVEN WITH THE SEED: THE CARDS: each row of YbulkaykoFmtRows.lean that lists a variable, with what it lists TIED to the program's text (the seventh form; the later family's looks); each row that meets fmt, with fmt's text TOLD by the authors' own Lean function (tested against real Go, not proved from fmt's source: count such statements apart). THE CARD IS WHAT COUNTS. Prove the row's statement (the work); the ties are given (YbulkaykoFmtTie.lean); close each card by the builder's one call (the guide's Derived/Test/ToyasCard.lean, 'card_holds'). Laid BY PROGRAM, IN A SANDBOX (cutbox-door.mjs). By AI agents, Wed Nov 11 2026. No macro, syntax, notation, axiom, sorry.
-/
import Derived.Test.YbulkaykoFmtRows
import GoSem.ClaimSeven
namespace Go.Proofs.YbulkaykoFmt
namespace Rows

/-- THE TOLD CARD OF 'm3ua.LawS2484CRoundTrip'. -/
def lawS2484CRoundTripCard : Claim7 := { stood := { row := lawS2484CRoundTripRow, standIns := [], harness := (true, "509c5d1c5d9ef29056d1573af676c18c57276bc883120e51e38f62cc3e02d830"), looks := false }, told := true, goes := false }
def LawS2484CRoundTripToldSaid : Prop := Claim7.holds Ybaf.pinned (.plain (OpenSpec.ofChange lawS2484CRoundTripSpec)) lawS2484CRoundTripCard
/-- ITS FALSE NEIGHBOUR. Refute it at one input. -/
def LawS2484CRoundTripToldWrongFalsely : Prop := Claim7.holds Ybaf.pinned (.plain (OpenSpec.ofChange lawS2484CRoundTripWrong)) lawS2484CRoundTripCard
end Rows
end Go.Proofs.YbulkaykoFmt
