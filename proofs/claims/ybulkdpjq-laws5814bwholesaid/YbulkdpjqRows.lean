/-
  No cell of these rows narrows 'for every input' (looked for: loops, veiled, ifaces, maps, wideKeys, modest, calm, conditions, laid).
  DERIVED. THE GIVEN ROWS OF THIS SEAT. 1 by the template 'for every input the law returns true; each argument reads behind the call as it read before'; 0 by the template 'total and deterministic' (their statements: YbulkdpjqTotals.lean).
  GIVEN WITH THE SEED: the statements are not yours to turn. If you find one false, say at which input.
  Laid BY PROGRAM, IN A SANDBOX (cutbox-rows.mjs): the forced cells as the released guide's own fill.sh prints them over the translation 14dc67928d0a2771… (all of the seat's roots in one cut). By AI agents, Wed Nov 11 2026. No macro, syntax, notation, axiom, sorry.
-/
import Derived.Test.YbulkdpjqChecked
import GoSem.Claim
import GoSem.ClaimJoined
import GoSem.ClaimMapViews
import Derived.JoinedTies
import Derived.KernelRfl
namespace Go.Proofs.Ybulkdpjq
/- THE CELL 'sum', in the pinned program and in every row, IS THE sha256 OF THE DUMP (.gsa) THAT YbulkdpjqProg.lean LOADS. Nothing in Lean hashes anything: it is a label: what it is worth is what the hold of that sum in a sandbox is worth. -/
noncomputable def Yba.pinned : Pinned := { name := "ybulkdpjq", sum := "14dc67928d0a27712f6496a2f46f6a2e8db7dce075fd5e45bbd051fb1e0a68bd", checked := Yba.checked }
namespace Rows
def none {H : Type} : Left H := { results := [], args := [] }

/-- 'veilroute.LawS5814BWhole': WHATEVER THE INPUT: true; the input reads as it did. -/
def lawS5814BWholeSpec : ChangeSpec := { name := "lawS5814BWhole", fn := fun _ => fun
  | [d] => { results := [.lit (.bool true)], args := [d] }
  | _ => none }
def lawS5814BWholeRow : OpenClaim := { program := "ybulkdpjq", sum := "14dc67928d0a27712f6496a2f46f6a2e8db7dce075fd5e45bbd051fb1e0a68bd", func := "example.com/veilroute/veilroute.LawS5814BWhole", spec := "lawS5814BWhole", plainKeys := false, apart := false }
def LawS5814BWholeSaid : Prop := lawS5814BWholeRow.holds Yba.pinned (OpenSpec.ofChange lawS5814BWholeSpec)

/-- ITS FALSE NEIGHBOUR: 'it returns false'. Refute it at one input. -/
def lawS5814BWholeWrong : ChangeSpec := { name := "lawS5814BWhole", fn := fun _ => fun
  | [d] => { results := [.lit (.bool false)], args := [d] }
  | _ => none }
def LawS5814BWholeWrongFalsely : Prop := lawS5814BWholeRow.holds Yba.pinned (OpenSpec.ofChange lawS5814BWholeWrong)

end Rows
end Go.Proofs.Ybulkdpjq
