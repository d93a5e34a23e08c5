/-
  byteorder.BEUint64.
-/
import Derived.Test.YbulkdphmDoorRows
import Derived.WalkKit
import Derived.ProofKit
import Derived.OpenShut
import Derived.WalkLawsBesides
import Derived.BigQuiet
import Derived.Laws.BitsAllLaws
import Derived.Laws.StructEq
import Derived.Outline
import Derived.Test.YbulkdphmDoorIp4
import Derived.Deep.RegionWith
import Derived.Deep.RegionHeld3
import Derived.Deep.DeepCutAuto
import Derived.Deep.DrawnRows
import Derived.Handy
import Derived.Laws.ResultCell
namespace Go.Proofs.YbulkdphmDoor
open Go.ChangeShapes Go.WideShapes Go.ChangeAt Go.RowKit
open Go.ChangeMaps (setBlock)
set_option linter.unusedVariables false
set_option linter.unusedSimpArgs false

theorem bits_u64 (op : BinOp) (x y : Int) : ∃ U : Nat, bits op .u64 x y = (U : Int) ∧ U < 18446744073709551616 := by
  have h : 0 ≤ bits op .u64 x y ∧ bits op .u64 x y < 18446744073709551616 := by
    unfold bits
    simp only
    rw [IntKind.wrap_u64]
    omega
  exact ⟨(bits op .u64 x y).toNat, by omega, by omega⟩
set_option maxRecDepth 100000 in
set_option maxHeartbeats 1600000 in
/-- byteorder.BEUint64 of eight bytes: some number. -/
theorem be64 (b off n c : Nat) (xs : List Int) (w : World) (h : Bytes w b off n xs) (h8 : 8 ≤ n) : Calls Ybad.prog 43 #[.slice (some ⟨b, off, none⟩) n c] w fun e w' => ∃ (U q : Nat), e = .returned (.int .u64 (U : Int)) ∧ U < 18446744073709551616 ∧ w' = w.drewN q := by
  have g0 : ∃ x : Int, w.cell? ⟨b, off, none⟩ = some (.int .u8 x) := ⟨_, h.cell 0 (by omega)⟩
  have g1 : ∃ x : Int, w.cell? ⟨b, off + 1, none⟩ = some (.int .u8 x) := ⟨_, h.cell 1 (by omega)⟩
  have g2 : ∃ x : Int, w.cell? ⟨b, off + 2, none⟩ = some (.int .u8 x) := ⟨_, h.cell 2 (by omega)⟩
  have g3 : ∃ x : Int, w.cell? ⟨b, off + 3, none⟩ = some (.int .u8 x) := ⟨_, h.cell 3 (by omega)⟩
  have g4 : ∃ x : Int, w.cell? ⟨b, off + 4, none⟩ = some (.int .u8 x) := ⟨_, h.cell 4 (by omega)⟩
  have g5 : ∃ x : Int, w.cell? ⟨b, off + 5, none⟩ = some (.int .u8 x) := ⟨_, h.cell 5 (by omega)⟩
  have g6 : ∃ x : Int, w.cell? ⟨b, off + 6, none⟩ = some (.int .u8 x) := ⟨_, h.cell 6 (by omega)⟩
  have g7 : ∃ x : Int, w.cell? ⟨b, off + 7, none⟩ = some (.int .u8 x) := ⟨_, h.cell 7 (by omega)⟩
  obtain ⟨x0, g0⟩ := g0
  obtain ⟨x1, g1⟩ := g1
  obtain ⟨x2, g2⟩ := g2
  obtain ⟨x3, g3⟩ := g3
  obtain ⟨x4, g4⟩ := g4
  obtain ⟨x5, g5⟩ := g5
  obtain ⟨x6, g6⟩ := g6
  obtain ⟨x7, g7⟩ := g7
  have i0 : (0 : Int) < (n : Int) := by omega
  have i1 : (1 : Int) < (n : Int) := by omega
  have i2 : (2 : Int) < (n : Int) := by omega
  have i3 : (3 : Int) < (n : Int) := by omega
  have i4 : (4 : Int) < (n : Int) := by omega
  have i5 : (5 : Int) < (n : Int) := by omega
  have i6 : (6 : Int) < (n : Int) := by omega
  have i7 : (7 : Int) < (n : Int) := by omega
  clear h
  go_enter Ybad.func43, Ybad.ntmps43
  go_wp2_with fail
  go_quiet (fail)
  go_wp2_with fail
  go_ret
  obtain ⟨U, hU, hlt⟩ := bits_u64 .or (bits .or .u64 (bits .or .u64 (bits .or .u64 (bits .or .u64 (bits .or .u64 (bits .or .u64 (IntKind.u64.wrap x7) (IntKind.u64.wrap (IntKind.u64.wrap x6 * 256))) (IntKind.u64.wrap (IntKind.u64.wrap x5 * 65536))) (IntKind.u64.wrap (IntKind.u64.wrap x4 * 16777216))) (IntKind.u64.wrap (IntKind.u64.wrap x3 * 4294967296))) (IntKind.u64.wrap (IntKind.u64.wrap x2 * 1099511627776))) (IntKind.u64.wrap (IntKind.u64.wrap x1 * 281474976710656))) (IntKind.u64.wrap (IntKind.u64.wrap x0 * 72057594037927936))
  refine ⟨U, nq, ?_, hlt, rfl⟩
  rw [← hU]
  rfl
end Go.Proofs.YbulkdphmDoor
