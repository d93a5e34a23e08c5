/-
  A copy of the input; bytes set.
-/
import Derived.Test.YbulkdphmDoorRows
import Derived.WalkKit
import Derived.ProofKit
import Derived.OpenShut
import Derived.WalkLawsBesides
import Derived.BigQuiet
import Derived.Laws.BitsAllLaws
import Derived.Laws.StructEq
import Derived.Outline
import Derived.Deep.RegionWith
import Derived.Deep.RegionHeld3
import Derived.Deep.DeepCutAuto
import Derived.Deep.DrawnRows
import Derived.Handy
import Derived.Laws.ResultCell
import Derived.Laws.OwnMore
import Derived.Laws.CopyRow
import Derived.OwnWalk
import Derived.Test.YbulkdphmDoorLawK
namespace Go.Proofs.YbulkdphmDoor
open Go.ChangeShapes Go.WideShapes Go.ChangeAt Go.RowKit
open Go.ChangeMaps (setBlock)
set_option linter.unusedVariables false
set_option linter.unusedSimpArgs false

theorem hp_setRow_eq {w : World} {g : Nat} {C D : Array Value} {t : TypeId} {f : Nat × Nat} (h : w.heap[g]? = some (.cells C t f)) : (w.setRow g D).heap[g]? = some (.cells D t f) := by
  simp [World.setRow, Array.getElem?_modify, h]
theorem hp_setRow_ne {w : World} {g b : Nat} {D : Array Value} (h : b ≠ g) : (w.setRow g D).heap[b]? = w.heap[b]? := by
  simp only [World.setRow, Array.getElem?_modify]
  rw [if_neg (by omega)]
theorem size5 : (Ybad.prog.info? 5).map (·.size) = some 1 := by kernel_rfl
/-- copy into a new row. -/
theorem copy_new (b off cap n : Nat) (xs : List Int) (w : World) (h : Bytes w b off n xs) : ∀ ty, (Builtin.copy_ #[22, 22] ty #[.slice (some ⟨w.heap.size, 0, none⟩) n n, .slice (some ⟨b, off, none⟩) n cap]).run Ybad.prog (w.alloc (.cells (madeCells #[.int .u8 0] n) 5)) =
      .ok (goInt n) ((w.alloc (.cells (madeCells #[.int .u8 0] n) 5)).setRow w.heap.size (bt xs)) := by
  intro ty
  have hnn := h.len
  have hs : (madeCells #[Value.int .u8 0] n).size = n := size_madeCells _ _
  have hr := run_copy_row (P := Ybad.prog) (w.alloc (.cells (madeCells #[.int .u8 0] n) 5)) 22 22 ty 5 w.heap.size 0 n n ⟨b, off, none⟩ n cap (madeCells #[.int .u8 0] n) 5 (xs.map (Value.int .u8))
    Ybad.underlying22 size5 (hp_alloc_eq _ _) (by simp [hnn]) (fun j v hj => ?_) (by rw [hs]; simp [hnn]) (fun v hv => by simp at hv; obtain ⟨x, _, rfl⟩ := hv; rfl)
  · rw [hr]
    simp [hnn, bt]
    congr 2
    have : (madeCells #[Value.int .u8 0] xs.length).toList.drop xs.length = [] := List.drop_eq_nil_of_le (by rw [Array.length_toList, size_madeCells]; omega)
    simpa using this
  · have hjl : j < xs.length := by
      have := (List.getElem?_eq_some_iff.1 hj).1
      simpa using this
    have h1 := h.cell j (by omega)
    rw [Lib.add_plain, (Below.alloc (Below.refl w.heap.size w) (Nat.le_refl _) _).cell (p := ⟨b, off + j, none⟩) (World.block_lt_of_cell? w _ h1), h1]
    simp [hjl] at hj
    subst hj
    simp [List.getD, hjl]
theorem byte_set {xs : List Int} (h : ∀ x ∈ xs, 0 ≤ x ∧ x < 256) (i : Nat) {v : Int} (hv : 0 ≤ v ∧ v < 256) : ∀ x ∈ xs.set i v, 0 ≤ x ∧ x < 256 := by
  intro x hx
  rcases List.mem_or_eq_of_mem_set hx with h1 | h1
  · exact h x h1
  · rw [h1]; exact hv
theorem put_bt {w : World} {b i : Nat} {xs : List Int} {v : Int} (h : w.heap[b]? = some (.cells (bt xs) 5)) : (w.setCell ⟨b, i, none⟩ (.int .u8 v)).heap[b]? = some (.cells (bt (xs.set i v)) 5) := by
  rw [hp_setCell_eq h, bt_set]
end Go.Proofs.YbulkdphmDoor
