/-
  Results that are structs.
-/
import Derived.Test.YbulkdphmDoorRows
import Derived.WalkKit
import Derived.ProofKit
import Derived.OpenShut
import Derived.WalkLawsBesides
import Derived.BigQuiet
import Derived.Laws.BitsAllLaws
import Derived.Laws.StructEq
import Derived.Outline
import Derived.Test.YbulkdphmDoorBytes
import Derived.Deep.RegionWith
import Derived.Deep.RegionHeld3
import Derived.Deep.DeepCutAuto
import Derived.Deep.DrawnRows
import Derived.Handy
import Derived.Laws.ResultCell
namespace Go.Proofs.YbulkdphmDoor
open Go.ChangeShapes Go.WideShapes Go.ChangeAt Go.RowKit
open Go.ChangeMaps (setBlock)
set_option linter.unusedVariables false
set_option linter.unusedSimpArgs false

theorem load59 (b : Nat) (x y z : Value) (w : World) (c0 : w.cell? ⟨b, 0, none⟩ = some x) (c1 : w.cell? ⟨b, 1, none⟩ = some y) (c2 : w.cell? ⟨b, 2, none⟩ = some z) : (loadVar 59 ⟨b, 0, none⟩).run Ybad.prog w = .ok (.agg #[x, y, z]) w := by
  go_simp
theorem load27 (b : Nat) (x y z : Value) (w : World) (c0 : w.cell? ⟨b, 0, none⟩ = some x) (c1 : w.cell? ⟨b, 1, none⟩ = some y) (c2 : w.cell? ⟨b, 2, none⟩ = some z) : (loadVar 27 ⟨b, 0, none⟩).run Ybad.prog w = .ok (.agg #[x, y, z]) w := by
  go_simp
theorem load94 (b : Nat) (x y : Value) (w : World) (c0 : w.cell? ⟨b, 0, none⟩ = some x) (c1 : w.cell? ⟨b, 1, none⟩ = some y) : (loadVar 94 ⟨b, 0, none⟩).run Ybad.prog w = .ok (.agg #[x, y]) w := by
  go_simp
theorem res_two {fn : Func} {p u : Tmp} {ty : TypeId} (h : fn.results = #[.cell p ty, .tmp u]) (tmps : Array Value) (w : World) (a : Addr) (v : Value) (hp : tmps.getD p undef = .pointer (some a)) (hl : (loadVar ty a).run Ybad.prog w = .ok v w) :
    (results fn tmps).run Ybad.prog w = .ok (.tuple #[v, tmps.getD u undef]) w := by
  rw [results_cell_tmp h, hp]
  simp [asAddr, hl, Result.andThen]
theorem res_one {fn : Func} {p : Tmp} {ty : TypeId} (h : fn.results = #[.cell p ty]) (tmps : Array Value) (w : World) (a : Addr) (v : Value) (hp : tmps.getD p undef = .pointer (some a)) (hl : (loadVar ty a).run Ybad.prog w = .ok v w) :
    (results fn tmps).run Ybad.prog w = .ok v w := by
  have hp' : tmps[p]?.getD undef = .pointer (some a) := by simpa using hp
  simp [results, h, hp', asAddr, hl, Result.andThen]
end Go.Proofs.YbulkdphmDoor
