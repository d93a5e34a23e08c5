/-
  No cell of these rows narrows 'for every input' (looked for: loops, veiled, ifaces, maps, wideKeys, modest, calm, conditions, laid).
  DERIVED. THE GIVEN ROWS OF THIS SEAT. 2 by the template 'for every input the law returns true; each argument reads behind the call as it read before'; 0 by the template 'total and deterministic' (their statements: YbulkdphmTotals.lean).
  GIVEN WITH THE SEED: the statements are not yours to turn. If you find one false, say at which input.
  Laid BY PROGRAM, IN A SANDBOX (cutbox-rows.mjs): the forced cells as the released guide's own fill.sh prints them over the translation 7f93a390c9c7316d… (all of the seat's roots in one cut). By AI agents, Wed Nov 11 2026. No macro, syntax, notation, axiom, sorry.
-/
import Derived.Test.YbulkdphmChecked
import GoSem.Claim
import GoSem.ClaimJoined
import GoSem.ClaimMapViews
import Derived.JoinedTies
import Derived.KernelRfl
namespace Go.Proofs.Ybulkdphm
/- THE CELL 'sum', in the pinned program and in every row, IS THE sha256 OF THE DUMP (.gsa) THAT YbulkdphmProg.lean LOADS. Nothing in Lean hashes anything: it is a label: what it is worth is what the hold of that sum in a sandbox is worth. -/
noncomputable def Yba.pinned : Pinned := { name := "ybulkdphm", sum := "7f93a390c9c7316de645f8c848a15a9ef422a8f267dd15e16b91c1d9391d31e5", checked := Yba.checked }
namespace Rows
def none {H : Type} : Left H := { results := [], args := [] }

/-- 'jsonobj.LawS5810AWhole': WHATEVER THE INPUT: true; the input reads as it did. -/
def lawS5810AWholeSpec : ChangeSpec := { name := "lawS5810AWhole", fn := fun _ => fun
  | [d1, d2, d3, d4] => { results := [.lit (.bool true)], args := [d1, d2, d3, d4] }
  | _ => none }
def lawS5810AWholeRow : OpenClaim := { program := "ybulkdphm", sum := "7f93a390c9c7316de645f8c848a15a9ef422a8f267dd15e16b91c1d9391d31e5", func := "example.com/rootsift/rootsift/jsonobj.LawS5810AWhole", spec := "lawS5810AWhole", inPlace := ["internal/bytealg.IndexByteString"], apart := false }
def LawS5810AWholeSaid : Prop := lawS5810AWholeRow.holds Yba.pinned (OpenSpec.ofChange lawS5810AWholeSpec)

/-- ITS FALSE NEIGHBOUR: 'it returns false'. Refute it at one input. -/
def lawS5810AWholeWrong : ChangeSpec := { name := "lawS5810AWhole", fn := fun _ => fun
  | [d1, d2, d3, d4] => { results := [.lit (.bool false)], args := [d1, d2, d3, d4] }
  | _ => none }
def LawS5810AWholeWrongFalsely : Prop := lawS5810AWholeRow.holds Yba.pinned (OpenSpec.ofChange lawS5810AWholeWrong)

/-- 'listen.LawS5810CWhole': WHATEVER THE INPUT: true; the input reads as it did. -/
def lawS5810CWholeSpec : ChangeSpec := { name := "lawS5810CWhole", fn := fun _ => fun
  | [d1, d2, d3, d4, d5] => { results := [.lit (.bool true)], args := [d1, d2, d3, d4, d5] }
  | _ => none }
def lawS5810CWholeRow : OpenClaim := { program := "ybulkdphm", sum := "7f93a390c9c7316de645f8c848a15a9ef422a8f267dd15e16b91c1d9391d31e5", func := "example.com/rootsift/rootsift/listen.LawS5810CWhole", spec := "lawS5810CWhole", inPlace := ["(*internal/sync.Mutex).Lock", "internal/race.Disable", "sync/atomic.CompareAndSwapInt32", "internal/race.Enable", "internal/race.Acquire", "(*internal/sync.Mutex).lockSlow", "internal/sync.runtime_canSpin", "internal/sync.runtime_doSpin", "internal/sync.throw", "internal/sync.runtime_nanotime", "internal/sync.runtime_SemacquireMutex", "sync/atomic.AddInt32", "(*internal/sync.Mutex).Unlock", "internal/race.ReleaseMerge", "(*internal/sync.Mutex).unlockSlow", "internal/sync.fatal", "internal/sync.runtime_Semrelease", "(*sync.WaitGroup).Add", "internal/synctest.IsInBubble", "internal/synctest.Associate[sync.WaitGroup]", "sync.fatal", "sync/atomic.OrUint64", "sync/atomic.AddUint64", "internal/race.Read", "sync/atomic.LoadUint64", "sync/atomic.StoreUint64", "internal/synctest.Disassociate[sync.WaitGroup]", "sync.runtime_Semrelease", "(*internal/sync.Mutex).TryLock", "(*sync.WaitGroup).Done"], unfollowed := true, recurses := true, apart := false }
def LawS5810CWholeSaid : Prop := lawS5810CWholeRow.holds Yba.pinned (OpenSpec.ofChange lawS5810CWholeSpec)

/-- ITS FALSE NEIGHBOUR: 'it returns false'. Refute it at one input. -/
def lawS5810CWholeWrong : ChangeSpec := { name := "lawS5810CWhole", fn := fun _ => fun
  | [d1, d2, d3, d4, d5] => { results := [.lit (.bool false)], args := [d1, d2, d3, d4, d5] }
  | _ => none }
def LawS5810CWholeWrongFalsely : Prop := lawS5810CWholeRow.holds Yba.pinned (OpenSpec.ofChange lawS5810CWholeWrong)

end Rows
end Go.Proofs.Ybulkdphm
