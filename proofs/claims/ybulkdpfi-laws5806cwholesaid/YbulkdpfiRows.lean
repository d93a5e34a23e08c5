/-
  No cell of these rows narrows 'for every input' (looked for: loops, veiled, ifaces, maps, wideKeys, modest, calm, conditions, laid).
  DERIVED. THE GIVEN ROWS OF THIS SEAT. 3 by the template 'for every input the law returns true; each argument reads behind the call as it read before'; 0 by the template 'total and deterministic' (their statements: YbulkdpfiTotals.lean).
  GIVEN WITH THE SEED: the statements are not yours to turn. If you find one false, say at which input.
  Laid BY PROGRAM, IN A SANDBOX (cutbox-rows.mjs): the forced cells as the released guide's own fill.sh prints them over the translation 41bb4d99f6201657… (all of the seat's roots in one cut). By AI agents, Wed Nov 11 2026. No macro, syntax, notation, axiom, sorry.
-/
import Derived.Test.YbulkdpfiChecked
import GoSem.Claim
import GoSem.ClaimJoined
import GoSem.ClaimMapViews
import Derived.JoinedTies
import Derived.KernelRfl
namespace Go.Proofs.Ybulkdpfi
/- THE CELL 'sum', in the pinned program and in every row, IS THE sha256 OF THE DUMP (.gsa) THAT YbulkdpfiProg.lean LOADS. Nothing in Lean hashes anything: it is a label: what it is worth is what the hold of that sum in a sandbox is worth. -/
noncomputable def Yba.pinned : Pinned := { name := "ybulkdpfi", sum := "41bb4d99f62016577563a21a0833dec285fb950508d90ba5fa120006922bd2c9", checked := Yba.checked }
namespace Rows
def none {H : Type} : Left H := { results := [], args := [] }

/-- 'store.LawS5806AWhole': WHATEVER THE INPUT: true; the input reads as it did. -/
def lawS5806AWholeSpec : ChangeSpec := { name := "lawS5806AWhole", fn := fun _ => fun
  | [d] => { results := [.lit (.bool true)], args := [d] }
  | _ => none }
def lawS5806AWholeRow : OpenClaim := { program := "ybulkdpfi", sum := "41bb4d99f62016577563a21a0833dec285fb950508d90ba5fa120006922bd2c9", func := "example.com/rillstack/rillstack/internal/store.LawS5806AWhole", spec := "lawS5806AWhole", apart := false }
def LawS5806AWholeSaid : Prop := lawS5806AWholeRow.holds Yba.pinned (OpenSpec.ofChange lawS5806AWholeSpec)

/-- ITS FALSE NEIGHBOUR: 'it returns false'. Refute it at one input. -/
def lawS5806AWholeWrong : ChangeSpec := { name := "lawS5806AWhole", fn := fun _ => fun
  | [d] => { results := [.lit (.bool false)], args := [d] }
  | _ => none }
def LawS5806AWholeWrongFalsely : Prop := lawS5806AWholeRow.holds Yba.pinned (OpenSpec.ofChange lawS5806AWholeWrong)

/-- 'store.LawS5806ADistinct': WHATEVER THE INPUT: true; the input reads as it did. -/
def lawS5806ADistinctSpec : ChangeSpec := { name := "lawS5806ADistinct", fn := fun _ => fun
  | [d1, d2] => { results := [.lit (.bool true)], args := [d1, d2] }
  | _ => none }
def lawS5806ADistinctRow : OpenClaim := { program := "ybulkdpfi", sum := "41bb4d99f62016577563a21a0833dec285fb950508d90ba5fa120006922bd2c9", func := "example.com/rillstack/rillstack/internal/store.LawS5806ADistinct", spec := "lawS5806ADistinct", apart := false }
def LawS5806ADistinctSaid : Prop := lawS5806ADistinctRow.holds Yba.pinned (OpenSpec.ofChange lawS5806ADistinctSpec)

/-- ITS FALSE NEIGHBOUR: 'it returns false'. Refute it at one input. -/
def lawS5806ADistinctWrong : ChangeSpec := { name := "lawS5806ADistinct", fn := fun _ => fun
  | [d1, d2] => { results := [.lit (.bool false)], args := [d1, d2] }
  | _ => none }
def LawS5806ADistinctWrongFalsely : Prop := lawS5806ADistinctRow.holds Yba.pinned (OpenSpec.ofChange lawS5806ADistinctWrong)

/-- 'search.LawS5806CWhole': WHATEVER THE INPUT: true; the input reads as it did. -/
def lawS5806CWholeSpec : ChangeSpec := { name := "lawS5806CWhole", fn := fun _ => fun
  | [d1, d2, d3, d4, d5] => { results := [.lit (.bool true)], args := [d1, d2, d3, d4, d5] }
  | _ => none }
def lawS5806CWholeRow : OpenClaim := { program := "ybulkdpfi", sum := "41bb4d99f62016577563a21a0833dec285fb950508d90ba5fa120006922bd2c9", func := "example.com/rillstack/rillstack/internal/search.LawS5806CWhole", spec := "lawS5806CWhole", unfollowed := true, recurses := true, apart := false }
def LawS5806CWholeSaid : Prop := lawS5806CWholeRow.holds Yba.pinned (OpenSpec.ofChange lawS5806CWholeSpec)

/-- ITS FALSE NEIGHBOUR: 'it returns false'. Refute it at one input. -/
def lawS5806CWholeWrong : ChangeSpec := { name := "lawS5806CWhole", fn := fun _ => fun
  | [d1, d2, d3, d4, d5] => { results := [.lit (.bool false)], args := [d1, d2, d3, d4, d5] }
  | _ => none }
def LawS5806CWholeWrongFalsely : Prop := lawS5806CWholeRow.holds Yba.pinned (OpenSpec.ofChange lawS5806CWholeWrong)

end Rows
end Go.Proofs.Ybulkdpfi
