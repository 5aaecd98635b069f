/-
  No cell of these rows narrows 'for every input' (looked for: loops, veiled, ifaces, maps, wideKeys, modest, calm, conditions, laid).
  DERIVED. THE GIVEN ROWS OF THIS SEAT. 6 by the template 'for every input the law returns true; each argument reads behind the call as it read before'; 0 by the template 'total and deterministic' (their statements: YbulkaylcTotals.lean).
  GIVEN WITH THE SEED: the statements are not yours to turn. If you find one false, say at which input.
  Laid BY PROGRAM, IN A SANDBOX (cutbox-rows.mjs): the forced cells as the released guide's own fill.sh prints them over the translation 83060cd389b058db… (all of the seat's roots in one cut). By AI agents, Wed Nov 11 2026. No macro, syntax, notation, axiom, sorry.
-/
import Derived.Test.YbulkaylcChecked
import GoSem.Claim
import GoSem.ClaimJoined
import GoSem.ClaimMapViews
import Derived.JoinedTies
import Derived.KernelRfl
namespace Go.Proofs.Ybulkaylc
/- THE CELL 'sum', in the pinned program and in every row, IS THE sha256 OF THE DUMP (.gsa) THAT YbulkaylcProg.lean LOADS. Nothing in Lean hashes anything: it is a label: what it is worth is what the hold of that sum in a sandbox is worth. -/
noncomputable def Yba.pinned : Pinned := { name := "ybulkaylc", sum := "83060cd389b058dbfe172d04eb5bd228471eb1f28f97e4c1a44f1c8d88f11325", checked := Yba.checked }
namespace Rows
def none {H : Type} : Left H := { results := [], args := [] }

/-- 'protocol.LawS2485ANoSearch': WHATEVER THE INPUT: true; the input reads as it did. -/
def lawS2485ANoSearchSpec : ChangeSpec := { name := "lawS2485ANoSearch", fn := fun _ => fun
  | [d1, d2] => { results := [.lit (.bool true)], args := [d1, d2] }
  | _ => none }
def lawS2485ANoSearchRow : OpenClaim := { program := "ybulkaylc", sum := "83060cd389b058dbfe172d04eb5bd228471eb1f28f97e4c1a44f1c8d88f11325", func := "example.com/precedence/precedence/pkg/protocol.LawS2485ANoSearch", spec := "lawS2485ANoSearch", unfollowed := true, recurses := true, plainKeys := false, apart := false }
def LawS2485ANoSearchSaid : Prop := lawS2485ANoSearchRow.holds Yba.pinned (OpenSpec.ofChange lawS2485ANoSearchSpec)

/-- ITS FALSE NEIGHBOUR: 'it returns false'. Refute it at one input. -/
def lawS2485ANoSearchWrong : ChangeSpec := { name := "lawS2485ANoSearch", fn := fun _ => fun
  | [d1, d2] => { results := [.lit (.bool false)], args := [d1, d2] }
  | _ => none }
def LawS2485ANoSearchWrongFalsely : Prop := lawS2485ANoSearchRow.holds Yba.pinned (OpenSpec.ofChange lawS2485ANoSearchWrong)

/-- 'protocol.LawS2485AStandIn': WHATEVER THE INPUT: true; the input reads as it did. -/
def lawS2485AStandInSpec : ChangeSpec := { name := "lawS2485AStandIn", fn := fun _ => fun
  | [d1, d2, d3] => { results := [.lit (.bool true)], args := [d1, d2, d3] }
  | _ => none }
def lawS2485AStandInRow : OpenClaim := { program := "ybulkaylc", sum := "83060cd389b058dbfe172d04eb5bd228471eb1f28f97e4c1a44f1c8d88f11325", func := "example.com/precedence/precedence/pkg/protocol.LawS2485AStandIn", spec := "lawS2485AStandIn", unfollowed := true, recurses := true, plainKeys := false, apart := false }
def LawS2485AStandInSaid : Prop := lawS2485AStandInRow.holds Yba.pinned (OpenSpec.ofChange lawS2485AStandInSpec)

/-- ITS FALSE NEIGHBOUR: 'it returns false'. Refute it at one input. -/
def lawS2485AStandInWrong : ChangeSpec := { name := "lawS2485AStandIn", fn := fun _ => fun
  | [d1, d2, d3] => { results := [.lit (.bool false)], args := [d1, d2, d3] }
  | _ => none }
def LawS2485AStandInWrongFalsely : Prop := lawS2485AStandInRow.holds Yba.pinned (OpenSpec.ofChange lawS2485AStandInWrong)

/-- 'protocol.LawS2485BSwapLast': WHATEVER THE INPUT: true; the input reads as it did. -/
def lawS2485BSwapLastSpec : ChangeSpec := { name := "lawS2485BSwapLast", fn := fun _ => fun
  | [d1, d2] => { results := [.lit (.bool true)], args := [d1, d2] }
  | _ => none }
def lawS2485BSwapLastRow : OpenClaim := { program := "ybulkaylc", sum := "83060cd389b058dbfe172d04eb5bd228471eb1f28f97e4c1a44f1c8d88f11325", func := "example.com/precedence/precedence/pkg/protocol.LawS2485BSwapLast", spec := "lawS2485BSwapLast", plainKeys := false, apart := false }
def LawS2485BSwapLastSaid : Prop := lawS2485BSwapLastRow.holds Yba.pinned (OpenSpec.ofChange lawS2485BSwapLastSpec)

/-- ITS FALSE NEIGHBOUR: 'it returns false'. Refute it at one input. -/
def lawS2485BSwapLastWrong : ChangeSpec := { name := "lawS2485BSwapLast", fn := fun _ => fun
  | [d1, d2] => { results := [.lit (.bool false)], args := [d1, d2] }
  | _ => none }
def LawS2485BSwapLastWrongFalsely : Prop := lawS2485BSwapLastRow.holds Yba.pinned (OpenSpec.ofChange lawS2485BSwapLastWrong)

/-- 'protocol.LawS2485BGroups': WHATEVER THE INPUT: true; the input reads as it did. -/
def lawS2485BGroupsSpec : ChangeSpec := { name := "lawS2485BGroups", fn := fun _ => fun
  | [d1, d2] => { results := [.lit (.bool true)], args := [d1, d2] }
  | _ => none }
def lawS2485BGroupsRow : OpenClaim := { program := "ybulkaylc", sum := "83060cd389b058dbfe172d04eb5bd228471eb1f28f97e4c1a44f1c8d88f11325", func := "example.com/precedence/precedence/pkg/protocol.LawS2485BGroups", spec := "lawS2485BGroups", plainKeys := false, apart := false }
def LawS2485BGroupsSaid : Prop := lawS2485BGroupsRow.holds Yba.pinned (OpenSpec.ofChange lawS2485BGroupsSpec)

/-- ITS FALSE NEIGHBOUR: 'it returns false'. Refute it at one input. -/
def lawS2485BGroupsWrong : ChangeSpec := { name := "lawS2485BGroups", fn := fun _ => fun
  | [d1, d2] => { results := [.lit (.bool false)], args := [d1, d2] }
  | _ => none }
def LawS2485BGroupsWrongFalsely : Prop := lawS2485BGroupsRow.holds Yba.pinned (OpenSpec.ofChange lawS2485BGroupsWrong)

/-- 'protocol.LawS2485CQuiet': WHATEVER THE INPUT: true; the input reads as it did. -/
def lawS2485CQuietSpec : ChangeSpec := { name := "lawS2485CQuiet", fn := fun _ => fun
  | [d1, d2] => { results := [.lit (.bool true)], args := [d1, d2] }
  | _ => none }
def lawS2485CQuietRow : OpenClaim := { program := "ybulkaylc", sum := "83060cd389b058dbfe172d04eb5bd228471eb1f28f97e4c1a44f1c8d88f11325", func := "example.com/precedence/precedence/pkg/protocol.LawS2485CQuiet", spec := "lawS2485CQuiet", unfollowed := true, recurses := true, plainKeys := false, apart := false }
def LawS2485CQuietSaid : Prop := lawS2485CQuietRow.holds Yba.pinned (OpenSpec.ofChange lawS2485CQuietSpec)

/-- ITS FALSE NEIGHBOUR: 'it returns false'. Refute it at one input. -/
def lawS2485CQuietWrong : ChangeSpec := { name := "lawS2485CQuiet", fn := fun _ => fun
  | [d1, d2] => { results := [.lit (.bool false)], args := [d1, d2] }
  | _ => none }
def LawS2485CQuietWrongFalsely : Prop := lawS2485CQuietRow.holds Yba.pinned (OpenSpec.ofChange lawS2485CQuietWrong)

/-- 'protocol.LawS2485CContended': WHATEVER THE INPUT: true; the input reads as it did. -/
def lawS2485CContendedSpec : ChangeSpec := { name := "lawS2485CContended", fn := fun _ => fun
  | [d1, d2, d3] => { results := [.lit (.bool true)], args := [d1, d2, d3] }
  | _ => none }
def lawS2485CContendedRow : OpenClaim := { program := "ybulkaylc", sum := "83060cd389b058dbfe172d04eb5bd228471eb1f28f97e4c1a44f1c8d88f11325", func := "example.com/precedence/precedence/pkg/protocol.LawS2485CContended", spec := "lawS2485CContended", unfollowed := true, recurses := true, plainKeys := false, apart := false }
def LawS2485CContendedSaid : Prop := lawS2485CContendedRow.holds Yba.pinned (OpenSpec.ofChange lawS2485CContendedSpec)

/-- ITS FALSE NEIGHBOUR: 'it returns false'. Refute it at one input. -/
def lawS2485CContendedWrong : ChangeSpec := { name := "lawS2485CContended", fn := fun _ => fun
  | [d1, d2, d3] => { results := [.lit (.bool false)], args := [d1, d2, d3] }
  | _ => none }
def LawS2485CContendedWrongFalsely : Prop := lawS2485CContendedRow.holds Yba.pinned (OpenSpec.ofChange lawS2485CContendedWrong)

end Rows
end Go.Proofs.Ybulkaylc
