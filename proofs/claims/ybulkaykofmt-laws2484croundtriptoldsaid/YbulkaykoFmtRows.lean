/-
  No cell of these rows narrows 'for every input' (looked for: loops, veiled, ifaces, maps, wideKeys, modest, calm, conditions, laid).
  DERIVED. THE GIVEN ROWS OF THIS SEAT. 1 by the template 'for every input the law returns true; each argument reads behind the call as it read before'; 0 by the template 'total and deterministic' (their statements: YbulkaykoFmtTotals.lean).
  GIVEN WITH THE SEED: the statements are not yours to turn. If you find one false, say at which input.
  Laid BY PROGRAM, IN A SANDBOX (cutbox-rows.mjs): the forced cells as the released guide's own fill.sh prints them over the translation a08e5bfb01bb7ffb… (all of the seat's roots in one cut). By AI agents, Wed Nov 11 2026. No macro, syntax, notation, axiom, sorry.
-/
import Derived.Test.YbulkaykoFmtChecked
import GoSem.Claim
import GoSem.ClaimJoined
import GoSem.ClaimMapViews
import Derived.JoinedTies
import Derived.KernelRfl
namespace Go.Proofs.YbulkaykoFmt
/- THE CELL 'sum', in the pinned program and in every row, IS THE sha256 OF THE DUMP (.gsa) THAT YbulkaykoFmtProg.lean LOADS. Nothing in Lean hashes anything: it is a label: what it is worth is what the hold of that sum in a sandbox is worth. -/
noncomputable def Ybaf.pinned : Pinned := { name := "ybulkaykofmt", sum := "a08e5bfb01bb7ffb819fdb5c0fa6cecede39f9906e1d05e9549013bc607c4683", checked := Ybaf.checked }
namespace Rows
def none {H : Type} : Left H := { results := [], args := [] }

/-- 'm3ua.LawS2484CRoundTrip': WHATEVER THE INPUT: true; the input reads as it did. -/
def lawS2484CRoundTripSpec : ChangeSpec := { name := "lawS2484CRoundTrip", fn := fun _ => fun
  | [d] => { results := [.lit (.bool true)], args := [d] }
  | _ => none }
def lawS2484CRoundTripRow : OpenClaim := { program := "ybulkaykofmt", sum := "a08e5bfb01bb7ffb819fdb5c0fa6cecede39f9906e1d05e9549013bc607c4683", func := "example.com/trunkline/trunkline/m3ua.LawS2484CRoundTrip", spec := "lawS2484CRoundTrip", stops := ["fmt.errorf, its operands' methods called", "fmt.Sprintf"], inPlace := ["fmt.errorf"], unfollowed := true, recurses := true, named := ["encoding/binary.BigEndian"], apart := false }
/-- NO THEOREM (fmt's text is open here; it may be false): for the released tool's asking of the row's closed facts alone. THE STATEMENT IS 'LawS2484CRoundTripToldSaid' (YbulkaykoFmtCards.lean). -/
def LawS2484CRoundTripFormAsk : Prop := lawS2484CRoundTripRow.holds Ybaf.pinned (OpenSpec.ofChange lawS2484CRoundTripSpec)

/-- ITS FALSE NEIGHBOUR: 'it returns false'. Refute it at one input. -/
def lawS2484CRoundTripWrong : ChangeSpec := { name := "lawS2484CRoundTrip", fn := fun _ => fun
  | [d] => { results := [.lit (.bool false)], args := [d] }
  | _ => none }
def LawS2484CRoundTripWrongFormAsk : Prop := lawS2484CRoundTripRow.holds Ybaf.pinned (OpenSpec.ofChange lawS2484CRoundTripWrong)

end Rows
end Go.Proofs.YbulkaykoFmt
