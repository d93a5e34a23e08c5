/-
  Cells of bytes.
-/
import Derived.Test.YbulkdphmDoorRows
import Derived.WalkKit
import Derived.ProofKit
import Derived.OpenShut
import Derived.WalkLawsBesides
import Derived.BigQuiet
import Derived.Laws.BitsAllLaws
import Derived.Laws.StructEq
import Derived.Outline
import Derived.Deep.RegionWith
import Derived.Deep.RegionHeld3
import Derived.Deep.DeepCutAuto
import Derived.Deep.DrawnRows
import Derived.Handy
import Derived.Laws.ResultCell
import Derived.Laws.OwnMore
import Derived.OwnWalk
import Derived.Test.YbulkdphmDoorLawS
import Derived.Test.YbulkdphmDoorLawN
namespace Go.Proofs.YbulkdphmDoor
open Go.ChangeShapes Go.WideShapes Go.ChangeAt Go.RowKit
open Go.ChangeMaps (setBlock)
set_option linter.unusedVariables false
set_option linter.unusedSimpArgs false

/-- The cells of bytes. -/
def bt (xs : List Int) : Array Value := (xs.map (Value.int .u8)).toArray
theorem bt_get (xs : List Int) (i : Nat) (h : i < xs.length) : (bt xs)[i]? = some (.int .u8 (xs.getD i 0)) := by
  simp [bt, List.getD, h]
theorem bt_set (xs : List Int) (i : Nat) (v : Int) : (bt xs).setIfInBounds i (.int .u8 v) = bt (xs.set i v) := by
  apply Array.ext'
  simp [bt]
theorem bytes_of {w : World} {b : Nat} {xs : List Int} {f : Nat × Nat} (h : w.heap[b]? = some (.cells (bt xs) 5 f)) (hb : ∀ x ∈ xs, 0 ≤ x ∧ x < 256) {n : Nat} (hn : n = xs.length) : Bytes w b 0 n xs :=
  ⟨hn, hb, fun i hi => by rw [Nat.zero_add]; exact cell_at h (bt_get xs i (by omega))⟩
theorem Str.nil (w : World) : Str w (.slice none 0 0) ⟨#[]⟩ := fun w' _ => run_convert_bytes_nil w' 22 5 Ybad.underlying22 Ybad.underlying5 0 0 9 Ybad.underlying9
theorem owned_bytes {w : World} {B : Nat} {v : Value} {n : Nat} {xs : List Int} (h : w.ownsRow B 5 1 v n (xs.map (Value.int .u8))) (hb : ∀ x ∈ xs, 0 ≤ x ∧ x < 256) (hn : n = xs.length) : (v = .slice none 0 0 ∧ n = 0) ∨ ∃ kb ck, v = .slice (some ⟨kb, 0, none⟩) n ck ∧ Bytes w kb 0 n xs := by
  rcases h.2 with ⟨hv, hx⟩ | ⟨g, cap, cur, hv, _⟩
  · left
    exact ⟨hv, hx⟩
  · right
    refine ⟨g, cap, hv, hn, hb, fun i hi => ?_⟩
    subst hv
    rw [Nat.zero_add, h.cellAt i (by omega)]
    simp [List.getD, show i < xs.length by omega]
end Go.Proofs.YbulkdphmDoor
