/-
  '(*ring).grow' of an empty row.
-/
import Derived.Test.YbulkdpksRows
import Derived.WalkKit
import Derived.ProofKit
import Derived.OpenShut
import Derived.WalkLawsBesides
import Derived.BigQuiet
import Derived.Laws.BitsAllLaws
import Derived.Laws.StructEq
import Derived.Outline
import Derived.Test.YbulkdpksHeap
import Derived.Test.YbulkdpksSync
import Derived.Test.YbulkdpksGrow
import Derived.Test.YbulkdpksPush
import Derived.Test.YbulkdpksJobs
import Derived.Test.YbulkdpksCrew
import Derived.Deep.RegionWith
import Derived.Deep.RegionHeld3
import Derived.Deep.DeepCutAuto
import Derived.Deep.DrawnRows
namespace Go.Proofs.Ybulkdpks
open Go.ChangeShapes Go.WideShapes Go.ChangeAt Go.RowKit
open Go.ChangeMaps (setBlock)
set_option linter.unusedVariables false

set_option maxRecDepth 100000 in
set_option maxHeartbeats 800000 in
theorem grow_zero (cb bb : Nat) (w : World) (c6 : w.cell? ⟨cb, 6, none⟩ = some (.int .i64 0)) (c8 : w.cell? ⟨cb, 8, none⟩ = some (.slice (some ⟨bb, 0, none⟩) 0 0)) (z6 : w.frozen? ⟨cb, 6, none⟩ = false) (z8 : w.frozen? ⟨cb, 8, none⟩ = false) (hcb : cb < w.heap.size) :
    Calls Yba.prog 63 #[.pointer (some ⟨cb, 6, none⟩)] w fun e w' => e = .returned (.tuple #[]) ∧
      ∃ q, w' = (((w.alloc (.cells (jobs (fun _ => 0) 8).toArray 32)).setCell ⟨cb, 8, none⟩ (.slice (some ⟨w.heap.size, 0, none⟩) 8 8)).setCell ⟨cb, 6, none⟩ (.int .i64 0)).drewN q := by
  have hmk : (Instr.makeSlice 27 (.int .i64 8) (.int .i64 8)).run Yba.prog w = .ok (.slice (some ⟨w.heap.size, 0, none⟩) 8 8) (w.alloc (.cells (jobs (fun _ => 0) 8).toArray 32)) := make_jobs 8 (by omega) w
  have hmx := max_jobs 0 8 rfl
  obtain ⟨W1, hW1⟩ : ∃ W1, W1 = w.alloc (.cells (jobs (fun _ => 0) 8).toArray 32) := ⟨_, rfl⟩
  obtain ⟨nb, hnb⟩ : ∃ nb, nb = w.heap.size := ⟨_, rfl⟩
  have hB : Below w.heap.size w W1 := by rw [hW1]; exact (Below.refl _ _).alloc (Nat.le_refl _) _
  have hN : W1.heap[nb]? = some (.cells (jobs (fun _ => 0) 8).toArray 32) := by rw [hW1, hnb]; exact hp_alloc_eq _ _
  have c6' : W1.cell? ⟨cb, 6, none⟩ = some (.int .i64 0) := (hB.cell (p := ⟨cb, 6, none⟩) hcb).trans c6
  have c8' : W1.cell? ⟨cb, 8, none⟩ = some (.slice (some ⟨bb, 0, none⟩) 0 0) := (hB.cell (p := ⟨cb, 8, none⟩) hcb).trans c8
  have z6' : W1.frozen? ⟨cb, 6, none⟩ = false := (hB.frozen (p := ⟨cb, 6, none⟩) hcb).trans z6
  have z8' : W1.frozen? ⟨cb, 8, none⟩ = false := (hB.frozen (p := ⟨cb, 8, none⟩) hcb).trans z8
  have hcp1 : Hid (∀ q ty, (Builtin.copy_ #[27, 27] ty #[.slice (some ⟨nb, 0, none⟩) 8 8, .slice (some ⟨bb, 0, none⟩) 0 0]).run Yba.prog (W1.drewN q) = .ok (goInt 0) (W1.drewN q)) := by
    intro q ty
    have h := run_copy_wide (P := Yba.prog) (W1.drewN q) 27 27 ty 32 nb 0 8 8 ⟨bb, 0, none⟩ 0 0 0 2 (jobs (fun _ => 0) 8).toArray 32 [] Yba.underlying27 size32 hN (by simp) (by simp) (fun j v hj => by simp at hj) (by simp) (fun v hv => by simp at hv)
    rw [h]
    congr 1
    have := setRow_self (W1.drewN q) nb (jobs (fun _ => 0) 8).toArray 32 (0, 0) hN
    simpa using this
  have HW1 := hide hW1
  have HNB := hide hnb
  clear hB hN
  go_enter Yba.func63, Yba.ntmps63
  go_wp2_with fail
  rw [← hW1, ← hnb]
  clear hW1 hnb hmk hmx
  refine wp_region_held_drew (S := fun w' => w'.cell? ⟨cb, 6, none⟩ = some (.int .i64 0) ∧ w'.cell? ⟨cb, 8, none⟩ = some (.slice (some ⟨bb, 0, none⟩) 0 0)) (by kernel_rfl) ?_ (fun hHeld => ?_)
  · exact ⟨c6', c8'⟩
  refine wpAnyH_take (i := 0) (oi := { dst := some 12, op := Op.move (Operand.tmp 2), type := 27, pos := "ring.go:54", after := #[], guard := none }) (v := ?_) rfl (by kernel_rfl) (by kernel_rfl) (by kernel_rfl) (fun _ _ _ h => h) (Or.inl ⟨by rfl, ?_⟩) hHeld ?_
  rotate_left
  · intro w hSw
    (try dsimp only at hSw)
    go_simp
    try with_reducible rfl
  try simp only [Act.put, List.setIfInBounds_toArray, List.set_cons_zero, List.set_cons_succ]
  refine wpAnyH_take (i := 1) (oi := { dst := some 13, op := Op.move (Operand.tmp 0), type := 96, pos := "ring.go:54", after := #[], guard := none }) (v := ?_) rfl (by kernel_rfl) (by kernel_rfl) (by kernel_rfl) (fun _ _ _ h => h) (Or.inl ⟨by rfl, ?_⟩) hHeld ?_
  rotate_left
  · intro w hSw
    (try dsimp only at hSw)
    go_simp
    try with_reducible rfl
  try simp only [Act.put, List.setIfInBounds_toArray, List.set_cons_zero, List.set_cons_succ]
  refine wpAnyH_take (i := 2) (oi := { dst := some 14, op := Op.nilCheck (Operand.tmp 13), type := 0, pos := "ring.go:54", after := #[{ on := 1, ground := Ground.data }], guard := none }) (v := ?_) rfl (by kernel_rfl) (by kernel_rfl) (by kernel_rfl) (fun _ _ _ h => h) (Or.inl ⟨by rfl, ?_⟩) hHeld ?_
  rotate_left
  · intro w hSw
    (try dsimp only at hSw)
    go_simp
    try with_reducible rfl
  try simp only [Act.put, List.setIfInBounds_toArray, List.set_cons_zero, List.set_cons_succ]
  refine wpAnyH_take (i := 3) (oi := { dst := some 15, op := Op.fieldAddr 29 (Operand.tmp 14) 2, type := 0, pos := "ring.go:54", after := #[{ on := 2, ground := Ground.data }], guard := none }) (v := ?_) rfl (by kernel_rfl) (by kernel_rfl) (by kernel_rfl) (fun _ _ _ h => h) (Or.inl ⟨by rfl, ?_⟩) hHeld ?_
  rotate_left
  · intro w hSw
    (try dsimp only at hSw)
    go_simp
    try with_reducible rfl
  try simp only [Act.put, List.setIfInBounds_toArray, List.set_cons_zero, List.set_cons_succ]
  refine wpAnyH_take (i := 4) (oi := { dst := some 16, op := Op.load 27 (Operand.tmp 15), type := 27, pos := "ring.go:54", after := #[{ on := 3, ground := Ground.data }], guard := none }) (v := ?_) rfl (by kernel_rfl) (by kernel_rfl) (by kernel_rfl) (fun _ _ _ h => h) (Or.inl ⟨by rfl, ?_⟩) hHeld ?_
  rotate_left
  · intro w hSw
    (try dsimp only at hSw)
    go_simp
    try with_reducible rfl
  try simp only [Act.put, List.setIfInBounds_toArray, List.set_cons_zero, List.set_cons_succ]
  refine wpAnyH_take (i := 5) (oi := { dst := some 17, op := Op.move (Operand.tmp 0), type := 96, pos := "ring.go:54", after := #[], guard := none }) (v := ?_) rfl (by kernel_rfl) (by kernel_rfl) (by kernel_rfl) (fun _ _ _ h => h) (Or.inl ⟨by rfl, ?_⟩) hHeld ?_
  rotate_left
  · intro w hSw
    (try dsimp only at hSw)
    go_simp
    try with_reducible rfl
  try simp only [Act.put, List.setIfInBounds_toArray, List.set_cons_zero, List.set_cons_succ]
  refine wpAnyH_take (i := 6) (oi := { dst := some 18, op := Op.nilCheck (Operand.tmp 17), type := 0, pos := "ring.go:54", after := #[{ on := 5, ground := Ground.data }], guard := none }) (v := ?_) rfl (by kernel_rfl) (by kernel_rfl) (by kernel_rfl) (fun _ _ _ h => h) (Or.inl ⟨by rfl, ?_⟩) hHeld ?_
  rotate_left
  · intro w hSw
    (try dsimp only at hSw)
    go_simp
    try with_reducible rfl
  try simp only [Act.put, List.setIfInBounds_toArray, List.set_cons_zero, List.set_cons_succ]
  refine wpAnyH_take (i := 7) (oi := { dst := some 19, op := Op.fieldAddr 29 (Operand.tmp 18) 0, type := 0, pos := "ring.go:54", after := #[{ on := 6, ground := Ground.data }], guard := none }) (v := ?_) rfl (by kernel_rfl) (by kernel_rfl) (by kernel_rfl) (fun _ _ _ h => h) (Or.inl ⟨by rfl, ?_⟩) hHeld ?_
  rotate_left
  · intro w hSw
    (try dsimp only at hSw)
    go_simp
    try with_reducible rfl
  try simp only [Act.put, List.setIfInBounds_toArray, List.set_cons_zero, List.set_cons_succ]
  refine wpAnyH_take (i := 8) (oi := { dst := some 20, op := Op.load 3 (Operand.tmp 19), type := 3, pos := "ring.go:54", after := #[{ on := 7, ground := Ground.data }], guard := none }) (v := ?_) rfl (by kernel_rfl) (by kernel_rfl) (by kernel_rfl) (fun _ _ _ h => h) (Or.inl ⟨by rfl, ?_⟩) hHeld ?_
  rotate_left
  · intro w hSw
    (try dsimp only at hSw)
    go_simp
    try with_reducible rfl
  try simp only [Act.put, List.setIfInBounds_toArray, List.set_cons_zero, List.set_cons_succ]
  refine wpAnyH_take (i := 9) (oi := { dst := some 21, op := Op.slice 27 (Operand.tmp 16) (some (Operand.tmp 20)) none none, type := 27, pos := "ring.go:54", after := #[{ on := 4, ground := Ground.data }, { on := 8, ground := Ground.data }], guard := none }) (v := ?_) rfl (by kernel_rfl) (by kernel_rfl) (by kernel_rfl) (fun _ _ _ h => h) (Or.inl ⟨by rfl, ?_⟩) hHeld ?_
  rotate_left
  · intro w hSw
    (try dsimp only at hSw)
    go_simp
    try with_reducible rfl
  try simp only [Act.put, List.setIfInBounds_toArray, List.set_cons_zero, List.set_cons_succ]
  refine wpAnyH_ready (rs := [10]) (by kernel_rfl) (by simp) ?_
  refine AllReadyH.cons (o := { dst := some 22, op := Op.call { callee := Callee.builtin Builtin.copy, args := #[Operand.tmp 12, Operand.tmp 21], argTypes := #[27, 27] }, type := 3, pos := "ring.go:54", after := #[{ on := 0, ground := Ground.data }, { on := 9, ground := Ground.data }], guard := none }) rfl (fun K hK => ?_) AllReadyH.nil
  have hcp : ∀ ty, (Builtin.copy_ #[27, 27] ty #[.slice (some ⟨nb, 0, none⟩) 8 8, .slice (some ⟨bb, 0, none⟩) 0 0]).run Yba.prog W1.drew = .ok (goInt 0) W1.drew := hcp1.out 1
  go_simp
  refine hK.out _ _ ?_ (fun hHeld => ?_)
  · exact ⟨c6', c8'⟩
  clear hK K
  try simp only [Act.put, List.setIfInBounds_toArray, List.set_cons_zero, List.set_cons_succ]
  refine wpAnyH_take (i := 11) (oi := { dst := some 3, op := Op.assign (Operand.tmp 22), type := 3, pos := "ring.go:54", after := #[{ on := 10, ground := Ground.data }, { on := 10, ground := Ground.chain }, { on := 0, ground := Ground.phase }, { on := 1, ground := Ground.phase }, { on := 2, ground := Ground.phase }, { on := 3, ground := Ground.phase }, { on := 4, ground := Ground.phase }, { on := 5, ground := Ground.phase }, { on := 6, ground := Ground.phase }, { on := 7, ground := Ground.phase }, { on := 8, ground := Ground.phase }, { on := 9, ground := Ground.phase }, { on := 10, ground := Ground.phase }], guard := none }) (v := ?_) rfl (by kernel_rfl) (by kernel_rfl) (by kernel_rfl) (fun _ _ _ h => h) (Or.inl ⟨by rfl, ?_⟩) hHeld ?_
  rotate_left
  · intro w hSw
    (try dsimp only at hSw)
    go_simp
    try with_reducible rfl
  try simp only [Act.put, List.setIfInBounds_toArray, List.set_cons_zero, List.set_cons_succ]
  refine wpAnyH_done (by kernel_rfl) ?_ _
  go_wp2_with fail
  refine wp_region_held_drew (S := fun w' => w'.cell? ⟨cb, 6, none⟩ = some (.int .i64 0) ∧ w'.cell? ⟨cb, 8, none⟩ = some (.slice (some ⟨bb, 0, none⟩) 0 0)) (by kernel_rfl) ?_ (fun hHeld => ?_)
  · exact ⟨c6', c8'⟩
  refine wpAnyH_take (i := 0) (oi := { dst := some 23, op := Op.move (Operand.tmp 2), type := 27, pos := "ring.go:55", after := #[], guard := none }) (v := ?_) rfl (by kernel_rfl) (by kernel_rfl) (by kernel_rfl) (fun _ _ _ h => h) (Or.inl ⟨by rfl, ?_⟩) hHeld ?_
  rotate_left
  · intro w hSw
    (try dsimp only at hSw)
    go_simp
    try with_reducible rfl
  try simp only [Act.put, List.setIfInBounds_toArray, List.set_cons_zero, List.set_cons_succ]
  refine wpAnyH_take (i := 1) (oi := { dst := some 24, op := Op.move (Operand.tmp 3), type := 3, pos := "ring.go:55", after := #[], guard := none }) (v := ?_) rfl (by kernel_rfl) (by kernel_rfl) (by kernel_rfl) (fun _ _ _ h => h) (Or.inl ⟨by rfl, ?_⟩) hHeld ?_
  rotate_left
  · intro w hSw
    (try dsimp only at hSw)
    go_simp
    try with_reducible rfl
  try simp only [Act.put, List.setIfInBounds_toArray, List.set_cons_zero, List.set_cons_succ]
  refine wpAnyH_take (i := 2) (oi := { dst := some 25, op := Op.slice 27 (Operand.tmp 23) (some (Operand.tmp 24)) none none, type := 27, pos := "ring.go:55", after := #[{ on := 0, ground := Ground.data }, { on := 1, ground := Ground.data }], guard := none }) (v := ?_) rfl (by kernel_rfl) (by kernel_rfl) (by kernel_rfl) (fun _ _ _ h => h) (Or.inl ⟨by rfl, ?_⟩) hHeld ?_
  rotate_left
  · intro w hSw
    (try dsimp only at hSw)
    go_simp
    try with_reducible rfl
  try simp only [Act.put, List.setIfInBounds_toArray, List.set_cons_zero, List.set_cons_succ]
  refine wpAnyH_take (i := 3) (oi := { dst := some 26, op := Op.move (Operand.tmp 0), type := 96, pos := "ring.go:55", after := #[], guard := none }) (v := ?_) rfl (by kernel_rfl) (by kernel_rfl) (by kernel_rfl) (fun _ _ _ h => h) (Or.inl ⟨by rfl, ?_⟩) hHeld ?_
  rotate_left
  · intro w hSw
    (try dsimp only at hSw)
    go_simp
    try with_reducible rfl
  try simp only [Act.put, List.setIfInBounds_toArray, List.set_cons_zero, List.set_cons_succ]
  refine wpAnyH_take (i := 4) (oi := { dst := some 27, op := Op.nilCheck (Operand.tmp 26), type := 0, pos := "ring.go:55", after := #[{ on := 3, ground := Ground.data }], guard := none }) (v := ?_) rfl (by kernel_rfl) (by kernel_rfl) (by kernel_rfl) (fun _ _ _ h => h) (Or.inl ⟨by rfl, ?_⟩) hHeld ?_
  rotate_left
  · intro w hSw
    (try dsimp only at hSw)
    go_simp
    try with_reducible rfl
  try simp only [Act.put, List.setIfInBounds_toArray, List.set_cons_zero, List.set_cons_succ]
  refine wpAnyH_take (i := 5) (oi := { dst := some 28, op := Op.fieldAddr 29 (Operand.tmp 27) 2, type := 0, pos := "ring.go:55", after := #[{ on := 4, ground := Ground.data }], guard := none }) (v := ?_) rfl (by kernel_rfl) (by kernel_rfl) (by kernel_rfl) (fun _ _ _ h => h) (Or.inl ⟨by rfl, ?_⟩) hHeld ?_
  rotate_left
  · intro w hSw
    (try dsimp only at hSw)
    go_simp
    try with_reducible rfl
  try simp only [Act.put, List.setIfInBounds_toArray, List.set_cons_zero, List.set_cons_succ]
  refine wpAnyH_take (i := 6) (oi := { dst := some 29, op := Op.load 27 (Operand.tmp 28), type := 27, pos := "ring.go:55", after := #[{ on := 5, ground := Ground.data }], guard := none }) (v := ?_) rfl (by kernel_rfl) (by kernel_rfl) (by kernel_rfl) (fun _ _ _ h => h) (Or.inl ⟨by rfl, ?_⟩) hHeld ?_
  rotate_left
  · intro w hSw
    (try dsimp only at hSw)
    go_simp
    try with_reducible rfl
  try simp only [Act.put, List.setIfInBounds_toArray, List.set_cons_zero, List.set_cons_succ]
  refine wpAnyH_take (i := 7) (oi := { dst := some 30, op := Op.move (Operand.tmp 0), type := 96, pos := "ring.go:55", after := #[], guard := none }) (v := ?_) rfl (by kernel_rfl) (by kernel_rfl) (by kernel_rfl) (fun _ _ _ h => h) (Or.inl ⟨by rfl, ?_⟩) hHeld ?_
  rotate_left
  · intro w hSw
    (try dsimp only at hSw)
    go_simp
    try with_reducible rfl
  try simp only [Act.put, List.setIfInBounds_toArray, List.set_cons_zero, List.set_cons_succ]
  refine wpAnyH_take (i := 8) (oi := { dst := some 31, op := Op.nilCheck (Operand.tmp 30), type := 0, pos := "ring.go:55", after := #[{ on := 7, ground := Ground.data }], guard := none }) (v := ?_) rfl (by kernel_rfl) (by kernel_rfl) (by kernel_rfl) (fun _ _ _ h => h) (Or.inl ⟨by rfl, ?_⟩) hHeld ?_
  rotate_left
  · intro w hSw
    (try dsimp only at hSw)
    go_simp
    try with_reducible rfl
  try simp only [Act.put, List.setIfInBounds_toArray, List.set_cons_zero, List.set_cons_succ]
  refine wpAnyH_take (i := 9) (oi := { dst := some 32, op := Op.fieldAddr 29 (Operand.tmp 31) 0, type := 0, pos := "ring.go:55", after := #[{ on := 8, ground := Ground.data }], guard := none }) (v := ?_) rfl (by kernel_rfl) (by kernel_rfl) (by kernel_rfl) (fun _ _ _ h => h) (Or.inl ⟨by rfl, ?_⟩) hHeld ?_
  rotate_left
  · intro w hSw
    (try dsimp only at hSw)
    go_simp
    try with_reducible rfl
  try simp only [Act.put, List.setIfInBounds_toArray, List.set_cons_zero, List.set_cons_succ]
  refine wpAnyH_take (i := 10) (oi := { dst := some 33, op := Op.load 3 (Operand.tmp 32), type := 3, pos := "ring.go:55", after := #[{ on := 9, ground := Ground.data }], guard := none }) (v := ?_) rfl (by kernel_rfl) (by kernel_rfl) (by kernel_rfl) (fun _ _ _ h => h) (Or.inl ⟨by rfl, ?_⟩) hHeld ?_
  rotate_left
  · intro w hSw
    (try dsimp only at hSw)
    go_simp
    try with_reducible rfl
  try simp only [Act.put, List.setIfInBounds_toArray, List.set_cons_zero, List.set_cons_succ]
  refine wpAnyH_take (i := 11) (oi := { dst := some 34, op := Op.slice 27 (Operand.tmp 29) none (some (Operand.tmp 33)) none, type := 27, pos := "ring.go:55", after := #[{ on := 6, ground := Ground.data }, { on := 10, ground := Ground.data }], guard := none }) (v := ?_) rfl (by kernel_rfl) (by kernel_rfl) (by kernel_rfl) (fun _ _ _ h => h) (Or.inl ⟨by rfl, ?_⟩) hHeld ?_
  rotate_left
  · intro w hSw
    (try dsimp only at hSw)
    go_simp
    try with_reducible rfl
  try simp only [Act.put, List.setIfInBounds_toArray, List.set_cons_zero, List.set_cons_succ]
  refine wpAnyH_ready (rs := [12]) (by kernel_rfl) (by simp) ?_
  refine AllReadyH.cons (o := { dst := some 35, op := Op.call { callee := Callee.builtin Builtin.copy, args := #[Operand.tmp 25, Operand.tmp 34], argTypes := #[27, 27] }, type := 3, pos := "ring.go:55", after := #[{ on := 2, ground := Ground.data }, { on := 11, ground := Ground.data }], guard := none }) rfl (fun K hK => ?_) AllReadyH.nil
  have hcp := hcp1.out 2
  go_simp
  refine hK.out _ _ ?_ (fun hHeld => ?_)
  · exact ⟨c6', c8'⟩
  clear hK K
  try simp only [Act.put, List.setIfInBounds_toArray, List.set_cons_zero, List.set_cons_succ]
  refine wpAnyH_done (by kernel_rfl) ?_ _
  go_wp2_with fail
  go_end0
  refine ⟨rfl, 2, ?_⟩
  rw [HW1.out, HNB.out]
  rfl
end Go.Proofs.Ybulkdpks
