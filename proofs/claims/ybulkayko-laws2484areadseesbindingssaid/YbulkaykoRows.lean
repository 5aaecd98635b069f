/-
  No cell of these rows narrows 'for every input' (looked for: loops, veiled, ifaces, maps, wideKeys, modest, calm, conditions, laid).
  DERIVED. THE GIVEN ROWS OF THIS SEAT. 2 by the template 'for every input the law returns true; each argument reads behind the call as it read before'; 0 by the template 'total and deterministic' (their statements: YbulkaykoTotals.lean).
  GIVEN WITH THE SEED: the statements are not yours to turn. If you find one false, say at which input.
  Laid BY PROGRAM, IN A SANDBOX (cutbox-rows.mjs): the forced cells as the released guide's own fill.sh prints them over the translation 2209bb508c5b5fb7… (all of the seat's roots in one cut). By AI agents, Wed Nov 11 2026. No macro, syntax, notation, axiom, sorry.
-/
import Derived.Test.YbulkaykoChecked
import GoSem.Claim
import GoSem.ClaimJoined
import GoSem.ClaimMapViews
import Derived.JoinedTies
import Derived.KernelRfl
namespace Go.Proofs.Ybulkayko
/- THE CELL 'sum', in the pinned program and in every row, IS THE sha256 OF THE DUMP (.gsa) THAT YbulkaykoProg.lean LOADS. Nothing in Lean hashes anything: it is a label: what it is worth is what the hold of that sum in a sandbox is worth. -/
noncomputable def Yba.pinned : Pinned := { name := "ybulkayko", sum := "2209bb508c5b5fb77242734cfa281660d747ee54d951ccc0ec908d9ff0314727", checked := Yba.checked }
namespace Rows
def none {H : Type} : Left H := { results := [], args := [] }

/-- 'service.LawS2484AReadSeesBindings': WHATEVER THE INPUT: true; the input reads as it did. -/
def lawS2484AReadSeesBindingsSpec : ChangeSpec := { name := "lawS2484AReadSeesBindings", fn := fun _ => fun
  | [d1, d2] => { results := [.lit (.bool true)], args := [d1, d2] }
  | _ => none }
def lawS2484AReadSeesBindingsRow : OpenClaim := { program := "ybulkayko", sum := "2209bb508c5b5fb77242734cfa281660d747ee54d951ccc0ec908d9ff0314727", func := "example.com/trunkline/trunkline/service.LawS2484AReadSeesBindings", spec := "lawS2484AReadSeesBindings", inPlace := ["(*sync.RWMutex).TryLock", "internal/race.Read", "internal/race.Disable", "(*internal/sync.Mutex).TryLock", "internal/race.Enable", "sync/atomic.CompareAndSwapInt32", "internal/race.Acquire", "(*internal/sync.Mutex).Unlock", "internal/race.ReleaseMerge", "sync/atomic.AddInt32", "(*internal/sync.Mutex).unlockSlow", "internal/sync.fatal", "internal/sync.runtime_Semrelease", "(*sync.RWMutex).Unlock", "internal/race.Release", "sync.fatal", "sync.runtime_Semrelease", "(*sync.RWMutex).RLock", "sync.runtime_SemacquireRWMutexR", "(*sync.RWMutex).RUnlock", "(*sync.RWMutex).rUnlockSlow"], unfollowed := true, recurses := true, apart := false }
def LawS2484AReadSeesBindingsSaid : Prop := lawS2484AReadSeesBindingsRow.holds Yba.pinned (OpenSpec.ofChange lawS2484AReadSeesBindingsSpec)

/-- ITS FALSE NEIGHBOUR: 'it returns false'. Refute it at one input. -/
def lawS2484AReadSeesBindingsWrong : ChangeSpec := { name := "lawS2484AReadSeesBindings", fn := fun _ => fun
  | [d1, d2] => { results := [.lit (.bool false)], args := [d1, d2] }
  | _ => none }
def LawS2484AReadSeesBindingsWrongFalsely : Prop := lawS2484AReadSeesBindingsRow.holds Yba.pinned (OpenSpec.ofChange lawS2484AReadSeesBindingsWrong)

/-- 'm3ua.LawS2484CLayout': WHATEVER THE INPUT: true; the input reads as it did. -/
def lawS2484CLayoutSpec : ChangeSpec := { name := "lawS2484CLayout", fn := fun _ => fun
  | [d] => { results := [.lit (.bool true)], args := [d] }
  | _ => none }
def lawS2484CLayoutRow : OpenClaim := { program := "ybulkayko", sum := "2209bb508c5b5fb77242734cfa281660d747ee54d951ccc0ec908d9ff0314727", func := "example.com/trunkline/trunkline/m3ua.LawS2484CLayout", spec := "lawS2484CLayout", named := ["encoding/binary.BigEndian"], apart := false }
def LawS2484CLayoutSaid : Prop := lawS2484CLayoutRow.holds Yba.pinned (OpenSpec.ofChange lawS2484CLayoutSpec)

/-- ITS FALSE NEIGHBOUR: 'it returns false'. Refute it at one input. -/
def lawS2484CLayoutWrong : ChangeSpec := { name := "lawS2484CLayout", fn := fun _ => fun
  | [d] => { results := [.lit (.bool false)], args := [d] }
  | _ => none }
def LawS2484CLayoutWrongFalsely : Prop := lawS2484CLayoutRow.holds Yba.pinned (OpenSpec.ofChange lawS2484CLayoutWrong)

end Rows
end Go.Proofs.Ybulkayko
