/-
  Small facts for the law's walk.
-/
import Derived.Test.YbulkdpksRows
import Derived.WalkKit
import Derived.ProofKit
import Derived.OpenShut
import Derived.WalkLawsBesides
import Derived.BigQuiet
import Derived.Laws.BitsAllLaws
import Derived.Laws.StructEq
import Derived.Outline
import Derived.Test.YbulkdpksOffered
import Derived.Test.YbulkdpksReady
namespace Go.Proofs.Ybulkdpks
open Go.ChangeShapes Go.WideShapes Go.ChangeAt Go.RowKit
open Go.ChangeMaps (setBlock)
set_option linter.unusedVariables false

theorem same_addr (b : Nat) (w : World) : (sameAddr ⟨b, 0, none⟩ ⟨b, 0, none⟩).run Yba.prog w = .ok true w := by
  simp [sameAddr]
theorem eqIn_ptr (d : Nat) (t e n : Nat) (h : Yba.prog.underlying t = some (.pointer e)) (w : World) (hi : (sizeOf e).run Yba.prog w = .ok (n + 1) w) (b : Nat) :
    (Op.equalIn (d + 1) t (.pointer (some ⟨b, 0, none⟩)) (.pointer (some ⟨b, 0, none⟩))).run Yba.prog w = .ok true w := by
  simp [Op.equalIn, run_underlying h, hi, same_addr]
theorem neq_of_eq {t : TypeId} {x y : Option Addr} {b : Bool} {w : World} (h : (Op.equal t (.pointer x) (.pointer y)).run Yba.prog w = .ok b w) : (binOp .neq t (.pointer x) (.pointer y)).run Yba.prog w = .ok (.bool (!b)) w := by
  simp only [binOp]
  simp [h]
/-- A pointer to a worker is the same as itself. -/
theorem neq35 (b : Nat) (w : World) : (binOp .neq 35 (.pointer (some ⟨b, 0, none⟩)) (.pointer (some ⟨b, 0, none⟩))).run Yba.prog w = .ok (.bool false) w :=
  neq_of_eq (eqIn_ptr 9999 35 46 3 Yba.underlying35 w (by kernel_rfl) b)
/-- The zero idler is the same as itself. -/
theorem neq49 (w : World) : (binOp .neq 49 (.agg #[.pointer none, .int .u64 0]) (.agg #[.pointer none, .int .u64 0])).run Yba.prog w = .ok (.bool false) w := by kernel_rfl

theorem info35 : (Yba.prog.info? 35).map (fun i => (i.zero, i.size, i.bytes)) = some (some (.pointer none), 1, 8) := by kernel_rfl
theorem info49 : (Yba.prog.info? 49).map (fun i => (i.zero, i.size, i.bytes)) = some (some (.agg #[.pointer none, .int .u64 0]), 2, 16) := by kernel_rfl

theorem make_ws (n : Nat) (hn : n ≤ 255) (w : World) : (Instr.makeSlice 33 (.int .i64 (n : Int)) (.int .i64 (n : Int))).run Yba.prog w = .ok (.slice (some ⟨w.heap.size, 0, none⟩) n n) (w.alloc (.cells (ones (fun _ => .pointer none) n).toArray 35)) := by
  obtain ⟨i, hi, hz⟩ := Option.map_eq_some_iff.1 info35
  simp only [Prod.mk.injEq] at hz
  obtain ⟨h1, h2, h3⟩ := hz
  have h := run_make (P := Yba.prog) w 33 35 i _ Yba.underlying33 hi h1 .i64 .i64 n n (by omega) (Int.le_refl _) (by rw [h3]; omega) (by omega)
  rw [h, h2, Int.toNat_natCast, ← made_ones]
  rfl
theorem make_pk (n : Nat) (hn : n ≤ 255) (w : World) : (Instr.makeSlice 34 (.int .i64 (n : Int)) (.int .i64 (n : Int))).run Yba.prog w = .ok (.slice (some ⟨w.heap.size, 0, none⟩) n n) (w.alloc (.cells (pairs (fun _ => .pointer none) (fun _ => .int .u64 0) n).toArray 49)) := by
  obtain ⟨i, hi, hz⟩ := Option.map_eq_some_iff.1 info49
  simp only [Prod.mk.injEq] at hz
  obtain ⟨h1, h2, h3⟩ := hz
  have h := run_make (P := Yba.prog) w 34 49 i _ Yba.underlying34 hi h1 .i64 .i64 n n (by omega) (Int.le_refl _) (by rw [h3]; omega) (by omega)
  rw [h, h2, Int.toNat_natCast, ← made_pairs]
  rfl

/-- The rest of a chain of statements behind its first n. -/
def tl : Nat → Code → Code
  | n + 1, .seq _ b => tl n b
  | _, c => c
/-- The first statement of a chain. -/
def hd : Code → Code
  | .seq a _ => a
  | c => c
end Go.Proofs.Ybulkdpks
