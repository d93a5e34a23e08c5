/-
  'zzs5816cready' in one contract.
-/
import Derived.Test.YbulkdpksRows
import Derived.WalkKit
import Derived.ProofKit
import Derived.OpenShut
import Derived.WalkLawsBesides
import Derived.BigQuiet
import Derived.Laws.BitsAllLaws
import Derived.Laws.StructEq
import Derived.Outline
import Derived.Test.YbulkdpksAids
namespace Go.Proofs.Ybulkdpks
open Go.ChangeShapes Go.WideShapes Go.ChangeAt Go.RowKit
open Go.ChangeMaps (setBlock)
set_option linter.unusedVariables false


/-- 'zzs5816cready' in one contract. -/
theorem ready_any (cb bb L h k : Nat) (g : Nat → Int) (t : Int) (app : Bool) (mu room aw done : Int) (slow : Bool) (pk : Value) (w : World) (hk : k ≤ 255) (r : Row L h (if app = true then k + 1 else k)) (hG : Holds L h k g t app)
    (hC : w.heap[cb]? = some (.cells (crewC mu slow room aw done (h : Int) ((if app = true then k + 1 else k : Nat) : Int) (.slice (some ⟨bb, 0, none⟩) L L) pk) 62)) (hB : w.heap[bb]? = some (.cells (jobs g L).toArray 32)) :
    Calls Yba.prog 9 #[.pointer (some ⟨cb, 6, none⟩), .int .i64 k, .int .i64 t, .bool app] w fun e w' => e = .returned (.bool true) ∧ Below w.heap.size w w' := by
  cases app with
  | true => exact ready_app cb bb L h k (k + 1) g t w hk rfl (by omega) r hG (lt_of_block hC) (cell_at hC rfl) (cell_at hC rfl) (cell_at hC rfl) hB
  | false =>
    by_cases h0 : k = 0
    · subst h0
      refine (ready_zero cb bb L h t w r.le.1 (cell_at hC rfl) (cell_at hC rfl) (cell_at hC rfl)).mono ?_
      rintro e w' ⟨he, rfl⟩
      exact ⟨he, Below.refl _ _⟩
    · exact ready_not cb bb L h k k g t w hk rfl (by omega) r hG (lt_of_block hC) (cell_at hC rfl) (cell_at hC rfl) (cell_at hC rfl) hB
theorem Below.blk {B : Nat} {a b : World} (h : Below B a b) {k : Nat} {o : Obj} (hb : B = a.heap.size) (hk : a.heap[k]? = some o) : b.heap[k]? = some o := (h.block k (by rw [hb]; exact lt_of_block hk)).trans hk
end Go.Proofs.Ybulkdpks
