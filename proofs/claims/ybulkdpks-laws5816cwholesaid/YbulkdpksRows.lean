/-
  No cell of these rows narrows 'for every input' (looked for: loops, veiled, ifaces, maps, wideKeys, modest, calm, conditions, laid).
  DERIVED. THE GIVEN ROWS OF THIS SEAT. 2 by the template 'for every input the law returns true; each argument reads behind the call as it read before'; 0 by the template 'total and deterministic' (their statements: YbulkdpksTotals.lean).
  GIVEN WITH THE SEED: the statements are not yours to turn. If you find one false, say at which input.
  Laid BY PROGRAM, IN A SANDBOX (cutbox-rows.mjs): the forced cells as the released guide's own fill.sh prints them over the translation fa1a6aa1dfbda1ab… (all of the seat's roots in one cut). By AI agents, Wed Nov 11 2026. No macro, syntax, notation, axiom, sorry.
-/
import Derived.Test.YbulkdpksChecked
import GoSem.Claim
import GoSem.ClaimJoined
import GoSem.ClaimMapViews
import Derived.JoinedTies
import Derived.KernelRfl
namespace Go.Proofs.Ybulkdpks
/- THE CELL 'sum', in the pinned program and in every row, IS THE sha256 OF THE DUMP (.gsa) THAT YbulkdpksProg.lean LOADS. Nothing in Lean hashes anything: it is a label: what it is worth is what the hold of that sum in a sandbox is worth. -/
noncomputable def Yba.pinned : Pinned := { name := "ybulkdpks", sum := "fa1a6aa1dfbda1ab66b2f5dd3294f766b59ee7e76d493e3babddd7d6cfc8f0dc", checked := Yba.checked }
namespace Rows
def none {H : Type} : Left H := { results := [], args := [] }

/-- 'sched.LawS5816BWhole': WHATEVER THE INPUT: true; the input reads as it did. -/
def lawS5816BWholeSpec : ChangeSpec := { name := "lawS5816BWhole", fn := fun _ => fun
  | [d1, d2] => { results := [.lit (.bool true)], args := [d1, d2] }
  | _ => none }
def lawS5816BWholeRow : OpenClaim := { program := "ybulkdpks", sum := "fa1a6aa1dfbda1ab66b2f5dd3294f766b59ee7e76d493e3babddd7d6cfc8f0dc", func := "example.com/shoal/shoal/internal/sched.LawS5816BWhole", spec := "lawS5816BWhole", inPlace := ["(*sync.WaitGroup).Add", "internal/race.ReleaseMerge", "internal/race.Disable", "internal/race.Enable", "internal/synctest.IsInBubble", "internal/synctest.Associate[sync.WaitGroup]", "sync.fatal", "sync/atomic.OrUint64", "sync/atomic.AddUint64", "internal/race.Read", "sync/atomic.LoadUint64", "sync/atomic.StoreUint64", "internal/synctest.Disassociate[sync.WaitGroup]", "sync.runtime_Semrelease", "sync/atomic.CompareAndSwapInt32", "sync/atomic.LoadInt32", "sync/atomic.LoadPointer", "sync/atomic.CompareAndSwapPointer", "sync/atomic.SwapInt32", "(*sync.WaitGroup).Done", "sync/atomic.LoadUint32", "sync/atomic.StoreUint32", "time.runtimeNano", "time.resetTimer", "time.newTimer"], unfollowed := true, recurses := true, apart := false }
def LawS5816BWholeSaid : Prop := lawS5816BWholeRow.holds Yba.pinned (OpenSpec.ofChange lawS5816BWholeSpec)

/-- ITS FALSE NEIGHBOUR: 'it returns false'. Refute it at one input. -/
def lawS5816BWholeWrong : ChangeSpec := { name := "lawS5816BWhole", fn := fun _ => fun
  | [d1, d2] => { results := [.lit (.bool false)], args := [d1, d2] }
  | _ => none }
def LawS5816BWholeWrongFalsely : Prop := lawS5816BWholeRow.holds Yba.pinned (OpenSpec.ofChange lawS5816BWholeWrong)

/-- 'sched.LawS5816CWhole': WHATEVER THE INPUT: true; the input reads as it did. -/
def lawS5816CWholeSpec : ChangeSpec := { name := "lawS5816CWhole", fn := fun _ => fun
  | [d1, d2, d3, d4, d5, d6, d7, d8] => { results := [.lit (.bool true)], args := [d1, d2, d3, d4, d5, d6, d7, d8] }
  | _ => none }
def lawS5816CWholeRow : OpenClaim := { program := "ybulkdpks", sum := "fa1a6aa1dfbda1ab66b2f5dd3294f766b59ee7e76d493e3babddd7d6cfc8f0dc", func := "example.com/shoal/shoal/internal/sched.LawS5816CWhole", spec := "lawS5816CWhole", inPlace := ["(*sync.WaitGroup).Add", "internal/race.ReleaseMerge", "internal/race.Disable", "internal/race.Enable", "internal/synctest.IsInBubble", "internal/synctest.Associate[sync.WaitGroup]", "sync.fatal", "sync/atomic.OrUint64", "sync/atomic.AddUint64", "internal/race.Read", "sync/atomic.LoadUint64", "sync/atomic.StoreUint64", "internal/synctest.Disassociate[sync.WaitGroup]", "sync.runtime_Semrelease", "sync/atomic.CompareAndSwapInt32", "sync/atomic.LoadInt32", "sync/atomic.LoadPointer", "sync/atomic.CompareAndSwapPointer", "sync/atomic.SwapInt32", "(*sync.WaitGroup).Done"], apart := false }
def LawS5816CWholeSaid : Prop := lawS5816CWholeRow.holds Yba.pinned (OpenSpec.ofChange lawS5816CWholeSpec)

/-- ITS FALSE NEIGHBOUR: 'it returns false'. Refute it at one input. -/
def lawS5816CWholeWrong : ChangeSpec := { name := "lawS5816CWhole", fn := fun _ => fun
  | [d1, d2, d3, d4, d5, d6, d7, d8] => { results := [.lit (.bool false)], args := [d1, d2, d3, d4, d5, d6, d7, d8] }
  | _ => none }
def LawS5816CWholeWrongFalsely : Prop := lawS5816CWholeRow.holds Yba.pinned (OpenSpec.ofChange lawS5816CWholeWrong)

end Rows
end Go.Proofs.Ybulkdpks
