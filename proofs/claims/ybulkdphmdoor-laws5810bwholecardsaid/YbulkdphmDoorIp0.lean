/-
  Handles of package netip.
-/
import Derived.Test.YbulkdphmDoorRows
import Derived.WalkKit
import Derived.ProofKit
import Derived.OpenShut
import Derived.WalkLawsBesides
import Derived.BigQuiet
import Derived.Laws.BitsAllLaws
import Derived.Laws.StructEq
import Derived.Outline
import Derived.Test.YbulkdphmDoorApp
import Derived.Deep.RegionWith
import Derived.Deep.RegionHeld3
import Derived.Deep.DeepCutAuto
import Derived.Deep.DrawnRows
namespace Go.Proofs.YbulkdphmDoor
open Go.ChangeShapes Go.WideShapes Go.ChangeAt Go.RowKit
open Go.ChangeMaps (setBlock)
set_option linter.unusedVariables false

open Go.Lib (byteCells decDigits)
/-- What package netip's three variables hold. -/
structure Zs (w : World) (a4 a6 : Addr) : Prop where
  z4 : w.cell? ⟨0, 0, none⟩ = some (.pointer (some a4))
  z6 : w.cell? ⟨2, 0, none⟩ = some (.pointer (some a6))
  z0 : w.cell? ⟨3, 0, none⟩ = some (.pointer none)
  b4 : ∃ c t, w.heap[a4.block]? = some (.cells c t (0, 0))
  b6 : ∃ c t, w.heap[a6.block]? = some (.cells c t (0, 0))
  ne : a4 ≠ a6
theorem Zs.on {w w' : World} {a4 a6 : Addr} (h : Zs w a4 a6) (hb : Below w.heap.size w w') : Zs w' a4 a6 := by
  obtain ⟨c, t, h4⟩ := h.b4
  obtain ⟨c', t', h6⟩ := h.b6
  exact ⟨(hb.cell (World.block_lt_of_cell? w _ h.z4)).trans h.z4, (hb.cell (World.block_lt_of_cell? w _ h.z6)).trans h.z6, (hb.cell (World.block_lt_of_cell? w _ h.z0)).trans h.z0, ⟨c, t, (hb.block _ (lt_of_block h4)).trans h4⟩, ⟨c', t', (hb.block _ (lt_of_block h6)).trans h6⟩, h.ne⟩

theorem size91 (w : World) : (sizeOf 91).run Ybad.prog w = .ok 2 w := by kernel_rfl
theorem same_self (a : Addr) (w : World) : (sameAddr a a).run Ybad.prog w = .ok true w := by simp [sameAddr]
theorem same_ne (a b : Addr) (w : World) (hne : a ≠ b) (ha : ∃ c t, w.heap[a.block]? = some (.cells c t (0, 0))) (hb : ∃ c t, w.heap[b.block]? = some (.cells c t (0, 0))) : (sameAddr a b).run Ybad.prog w = .ok false w := by
  obtain ⟨c, t, ha⟩ := ha
  obtain ⟨c', t', hb⟩ := hb
  by_cases e : a.block = b.block
  · simp [sameAddr, e, hne]
  · simp [sameAddr, e, noView, viewAt, mayBeOne, stringish, World.frozen?, World.shape?, ha, hb, Result.andThen]

theorem fields57 : Ybad.prog.fieldsOf 57 = #[{ name := "value", type := 55, offset := 0, embedded := false, tag := "", pkgPath := "unique", byteOffset := 0 }] := by kernel_rfl
theorem eqP_same (d : Nat) (a : Addr) (w : World) : (Op.equalIn (d + 1) 55 (.pointer (some a)) (.pointer (some a))).run Ybad.prog w = .ok true w := by
  simp [Op.equalIn, run_underlying Ybad.underlying55, same_self]
theorem eqP_ne (d : Nat) (a b : Addr) (w : World) (h : (sameAddr a b).run Ybad.prog w = .ok false w) : (Op.equalIn (d + 1) 55 (.pointer (some a)) (.pointer (some b))).run Ybad.prog w = .ok false w := by
  simp [Op.equalIn, run_underlying Ybad.underlying55, h]
theorem eqP_nil (d : Nat) (a : Addr) (w : World) : (Op.equalIn (d + 1) 55 (.pointer (some a)) (.pointer none)).run Ybad.prog w = .ok false w := by
  simp [Op.equalIn, run_underlying Ybad.underlying55]
theorem eqP_nils (d : Nat) (w : World) : (Op.equalIn (d + 1) 55 (.pointer none) (.pointer none)).run Ybad.prog w = .ok true w := by
  simp [Op.equalIn, run_underlying Ybad.underlying55]
/-- The handles compared. -/
theorem eqH (x y : Option Addr) (r : Bool) (w : World) (h : (Op.equalIn 9999 55 (.pointer x) (.pointer y)).run Ybad.prog w = .ok r w) : (Op.equal 57 (.agg #[.pointer x]) (.agg #[.pointer y])).run Ybad.prog w = .ok r w := by
  show (Op.equalIn (9999 + 1) 57 (.agg #[.pointer x]) (.agg #[.pointer y])).run Ybad.prog w = .ok r w
  rw [run_equalIn_struct w 9999 57 _ _ (by kernel_rfl) (by kernel_rfl), fields57]
  cases r <;> simp [Op.eqFields, part, go_sem, h]
theorem binH_eql (x y : Option Addr) (r : Bool) (w : World) (h : (Op.equalIn 9999 55 (.pointer x) (.pointer y)).run Ybad.prog w = .ok r w) : (binOp .eql 57 (.agg #[.pointer x]) (.agg #[.pointer y])).run Ybad.prog w = .ok (.bool r) w := by
  simp only [binOp]
  simp [eqH x y r w h]
theorem binH_neq (x y : Option Addr) (r : Bool) (w : World) (h : (Op.equalIn 9999 55 (.pointer x) (.pointer y)).run Ybad.prog w = .ok r w) : (binOp .neq 57 (.agg #[.pointer x]) (.agg #[.pointer y])).run Ybad.prog w = .ok (.bool (!r)) w := by
  simp only [binOp]
  simp [eqH x y r w h]
end Go.Proofs.YbulkdphmDoor
