/-
  '(*ring).push' where there is room.
-/
import Derived.Test.YbulkdpksRows
import Derived.WalkKit
import Derived.ProofKit
import Derived.OpenShut
import Derived.WalkLawsBesides
import Derived.BigQuiet
import Derived.Laws.BitsAllLaws
import Derived.Laws.StructEq
import Derived.Outline
import Derived.Test.YbulkdpksHeap
import Derived.Test.YbulkdpksSync
import Derived.Test.YbulkdpksCrew
import Derived.Deep.RegionWith
import Derived.Deep.RegionHeld3
import Derived.Deep.DeepCutAuto
import Derived.Deep.DrawnRows
namespace Go.Proofs.Ybulkdpks
open Go.ChangeShapes Go.WideShapes Go.ChangeAt Go.RowKit
open Go.ChangeMaps (setBlock)
set_option linter.unusedVariables false

theorem hide {p : Prop} (h : p) : Hid p := h
theorem two_other {W : World} {b k o1 o2 o : Nat} {v1 v2 : Value} (h : k ≠ b) : ((W.setCell ⟨b, o1, none⟩ v1).setCell ⟨b, o2, none⟩ v2).cell? ⟨k, o, none⟩ = W.cell? ⟨k, o, none⟩ := by
  rw [World.cell?_setCell_other _ _ _ _ (by simp <;> omega), World.cell?_setCell_other _ _ _ _ (by simp <;> omega)]

set_option maxRecDepth 100000 in
set_option maxHeartbeats 800000 in
theorem push_room (cb bb L p : Nat) (h k t : Int) (w : World) (h0 : 0 ≤ h) (h1 : h < L) (k0 : 0 ≤ k) (k1 : k ≤ 255) (hL : L ≤ 512) (hk : (k == (L : Int)) = false) (hL0 : 0 < L) (hp : bits .and .i64 (h + k) ((L : Int) - 1) = (p : Int)) (hpL : p < L)
    (c6 : w.cell? ⟨cb, 6, none⟩ = some (.int .i64 h)) (c7 : w.cell? ⟨cb, 7, none⟩ = some (.int .i64 k)) (c8 : w.cell? ⟨cb, 8, none⟩ = some (.slice (some ⟨bb, 0, none⟩) L L)) (x1 x2 : Value) (b0 : w.cell? ⟨bb, p * 2, none⟩ = some x1) (b1 : w.cell? ⟨bb, p * 2 + 1, none⟩ = some x2)
    (zc : w.frozen? ⟨cb, 7, none⟩ = false) (zb : ∀ o, w.frozen? ⟨bb, o, none⟩ = false) (hcb : cb < w.heap.size) (hbb : bb < w.heap.size) (hne : cb ≠ bb) :
    Calls Yba.prog 51 #[.pointer (some ⟨cb, 6, none⟩), .agg #[.int .i64 t, .pointer none]] w fun e w' => e = .returned (.tuple #[]) ∧
      ∃ q, w' = ((((w.alloc (.cells #[.int .i64 t, .pointer none] 32)).setCell ⟨bb, p * 2, none⟩ (.int .i64 t)).setCell ⟨bb, p * 2 + 1, none⟩ (.pointer none)).setCell ⟨cb, 7, none⟩ (.int .i64 (k + 1))).drewN q := by
  have hw1 : IntKind.i64.wrap (h + k) = h + k := by rw [IntKind.wrap_i64]; omega
  have hw2 : IntKind.i64.wrap ((L : Int) - 1) = (L : Int) - 1 := by rw [IntKind.wrap_i64]; omega
  have hw3 : IntKind.i64.wrap (k + 1) = k + 1 := by rw [IntKind.wrap_i64]; omega
  have hp1 : (p : Int) < (L : Int) := by omega
  have z1 := zb (p * 2)
  have z2 := zb (p * 2 + 1)
  clear zb
  go_enter Yba.func51, Yba.ntmps51
  go_wp2_with fail
  go_quiet (fail)
  go_wp2_with fail
  obtain ⟨W1, hW1⟩ : ∃ W1, W1 = (w.alloc (.cells #[.int .i64 t, .pointer none] 32)).drewN nq := ⟨_, rfl⟩
  have hB : Below w.heap.size w W1 := by rw [hW1]; exact below_drewN ((Below.refl _ _).alloc (Nat.le_refl _) _) _
  obtain ⟨jb, hjb⟩ : ∃ jb, jb = w.heap.size := ⟨_, rfl⟩
  have hblk : W1.heap[jb]? = some (.cells #[.int .i64 t, .pointer none] 32) := by rw [hW1, hjb]; exact hp_alloc_eq _ _
  have HS : (W1.drew.cell? ⟨cb, 6, none⟩ = some (.int .i64 h) ∧ W1.drew.cell? ⟨cb, 7, none⟩ = some (.int .i64 k) ∧ W1.drew.cell? ⟨cb, 8, none⟩ = some (.slice (some ⟨bb, 0, none⟩) L L) ∧ W1.drew.cell? ⟨jb, 0, none⟩ = some (.int .i64 t) ∧ W1.drew.cell? ⟨jb, 1, none⟩ = some (.pointer none) ∧ (∃ x, W1.drew.cell? ⟨bb, p * 2, none⟩ = some x) ∧ (∃ x, W1.drew.cell? ⟨bb, p * 2 + 1, none⟩ = some x) ∧ W1.drew.frozen? ⟨bb, p * 2, none⟩ = false ∧ W1.drew.frozen? ⟨bb, p * 2 + 1, none⟩ = false) :=
    ⟨(hB.cell (p := ⟨cb, 6, none⟩) hcb).trans c6, (hB.cell (p := ⟨cb, 7, none⟩) hcb).trans c7, (hB.cell (p := ⟨cb, 8, none⟩) hcb).trans c8, cell_at (w := W1.drew) hblk rfl, cell_at (w := W1.drew) hblk rfl,
      ⟨x1, (hB.cell (p := ⟨bb, p * 2, none⟩) hbb).trans b0⟩, ⟨x2, (hB.cell (p := ⟨bb, p * 2 + 1, none⟩) hbb).trans b1⟩, (hB.frozen (p := ⟨bb, p * 2, none⟩) hbb).trans z1, (hB.frozen (p := ⟨bb, p * 2 + 1, none⟩) hbb).trans z2⟩
  have zc' : W1.frozen? ⟨cb, 7, none⟩ = false := (hB.frozen (p := ⟨cb, 7, none⟩) hcb).trans zc
  have c7' : W1.cell? ⟨cb, 7, none⟩ = some (.int .i64 k) := (hB.cell (p := ⟨cb, 7, none⟩) hcb).trans c7
  have n1 : jb ≠ bb := by omega
  have HW := hide hW1
  rw [← hW1, ← hjb]
  clear hW1 hjb hblk hB b0 b1 c6 c7 c8 z1 z2 zc
  refine wp_region_held_drew (S := fun w' => w'.cell? ⟨cb, 6, none⟩ = some (.int .i64 h) ∧ w'.cell? ⟨cb, 7, none⟩ = some (.int .i64 k) ∧ w'.cell? ⟨cb, 8, none⟩ = some (.slice (some ⟨bb, 0, none⟩) L L) ∧ w'.cell? ⟨jb, 0, none⟩ = some (.int .i64 t) ∧ w'.cell? ⟨jb, 1, none⟩ = some (.pointer none) ∧ (∃ x, w'.cell? ⟨bb, p * 2, none⟩ = some x) ∧ (∃ x, w'.cell? ⟨bb, p * 2 + 1, none⟩ = some x) ∧ w'.frozen? ⟨bb, p * 2, none⟩ = false ∧ w'.frozen? ⟨bb, p * 2 + 1, none⟩ = false) (by kernel_rfl) ?_ (fun hHeld => ?_)
  · exact HS
  refine wpAnyH_take (i := 0) (oi := { dst := some 16, op := Op.move (Operand.tmp 0), type := 96, pos := "ring.go:24", after := #[], guard := none }) (v := ?_) rfl (by kernel_rfl) (by kernel_rfl) (by kernel_rfl) (fun _ _ _ h => h) (Or.inl ⟨by rfl, ?_⟩) hHeld ?_
  rotate_left
  · intro w hSw
    (try dsimp only at hSw)
    go_simp
    try with_reducible rfl
  try simp only [Act.put, List.setIfInBounds_toArray, List.set_cons_zero, List.set_cons_succ]
  refine wpAnyH_take (i := 1) (oi := { dst := some 17, op := Op.nilCheck (Operand.tmp 16), type := 0, pos := "ring.go:24", after := #[{ on := 0, ground := Ground.data }], guard := none }) (v := ?_) rfl (by kernel_rfl) (by kernel_rfl) (by kernel_rfl) (fun _ _ _ h => h) (Or.inl ⟨by rfl, ?_⟩) hHeld ?_
  rotate_left
  · intro w hSw
    (try dsimp only at hSw)
    go_simp
    try with_reducible rfl
  try simp only [Act.put, List.setIfInBounds_toArray, List.set_cons_zero, List.set_cons_succ]
  refine wpAnyH_take (i := 2) (oi := { dst := some 18, op := Op.fieldAddr 29 (Operand.tmp 17) 2, type := 0, pos := "ring.go:24", after := #[{ on := 1, ground := Ground.data }], guard := none }) (v := ?_) rfl (by kernel_rfl) (by kernel_rfl) (by kernel_rfl) (fun _ _ _ h => h) (Or.inl ⟨by rfl, ?_⟩) hHeld ?_
  rotate_left
  · intro w hSw
    (try dsimp only at hSw)
    go_simp
    try with_reducible rfl
  try simp only [Act.put, List.setIfInBounds_toArray, List.set_cons_zero, List.set_cons_succ]
  refine wpAnyH_take (i := 3) (oi := { dst := some 19, op := Op.load 27 (Operand.tmp 18), type := 27, pos := "ring.go:24", after := #[{ on := 2, ground := Ground.data }], guard := none }) (v := ?_) rfl (by kernel_rfl) (by kernel_rfl) (by kernel_rfl) (fun _ _ _ h => h) (Or.inl ⟨by rfl, ?_⟩) hHeld ?_
  rotate_left
  · intro w hSw
    (try dsimp only at hSw)
    go_simp
    try with_reducible rfl
  try simp only [Act.put, List.setIfInBounds_toArray, List.set_cons_zero, List.set_cons_succ]
  refine wpAnyH_take (i := 4) (oi := { dst := some 20, op := Op.move (Operand.tmp 0), type := 96, pos := "ring.go:24", after := #[], guard := none }) (v := ?_) rfl (by kernel_rfl) (by kernel_rfl) (by kernel_rfl) (fun _ _ _ h => h) (Or.inl ⟨by rfl, ?_⟩) hHeld ?_
  rotate_left
  · intro w hSw
    (try dsimp only at hSw)
    go_simp
    try with_reducible rfl
  try simp only [Act.put, List.setIfInBounds_toArray, List.set_cons_zero, List.set_cons_succ]
  refine wpAnyH_take (i := 5) (oi := { dst := some 21, op := Op.nilCheck (Operand.tmp 20), type := 0, pos := "ring.go:24", after := #[{ on := 4, ground := Ground.data }], guard := none }) (v := ?_) rfl (by kernel_rfl) (by kernel_rfl) (by kernel_rfl) (fun _ _ _ h => h) (Or.inl ⟨by rfl, ?_⟩) hHeld ?_
  rotate_left
  · intro w hSw
    (try dsimp only at hSw)
    go_simp
    try with_reducible rfl
  try simp only [Act.put, List.setIfInBounds_toArray, List.set_cons_zero, List.set_cons_succ]
  refine wpAnyH_take (i := 6) (oi := { dst := some 22, op := Op.fieldAddr 29 (Operand.tmp 21) 0, type := 0, pos := "ring.go:24", after := #[{ on := 5, ground := Ground.data }], guard := none }) (v := ?_) rfl (by kernel_rfl) (by kernel_rfl) (by kernel_rfl) (fun _ _ _ h => h) (Or.inl ⟨by rfl, ?_⟩) hHeld ?_
  rotate_left
  · intro w hSw
    (try dsimp only at hSw)
    go_simp
    try with_reducible rfl
  try simp only [Act.put, List.setIfInBounds_toArray, List.set_cons_zero, List.set_cons_succ]
  refine wpAnyH_take (i := 7) (oi := { dst := some 23, op := Op.load 3 (Operand.tmp 22), type := 3, pos := "ring.go:24", after := #[{ on := 6, ground := Ground.data }], guard := none }) (v := ?_) rfl (by kernel_rfl) (by kernel_rfl) (by kernel_rfl) (fun _ _ _ h => h) (Or.inl ⟨by rfl, ?_⟩) hHeld ?_
  rotate_left
  · intro w hSw
    (try dsimp only at hSw)
    go_simp
    try with_reducible rfl
  try simp only [Act.put, List.setIfInBounds_toArray, List.set_cons_zero, List.set_cons_succ]
  refine wpAnyH_take (i := 8) (oi := { dst := some 24, op := Op.move (Operand.tmp 0), type := 96, pos := "ring.go:24", after := #[], guard := none }) (v := ?_) rfl (by kernel_rfl) (by kernel_rfl) (by kernel_rfl) (fun _ _ _ h => h) (Or.inl ⟨by rfl, ?_⟩) hHeld ?_
  rotate_left
  · intro w hSw
    (try dsimp only at hSw)
    go_simp
    try with_reducible rfl
  try simp only [Act.put, List.setIfInBounds_toArray, List.set_cons_zero, List.set_cons_succ]
  refine wpAnyH_take (i := 9) (oi := { dst := some 25, op := Op.nilCheck (Operand.tmp 24), type := 0, pos := "ring.go:24", after := #[{ on := 8, ground := Ground.data }], guard := none }) (v := ?_) rfl (by kernel_rfl) (by kernel_rfl) (by kernel_rfl) (fun _ _ _ h => h) (Or.inl ⟨by rfl, ?_⟩) hHeld ?_
  rotate_left
  · intro w hSw
    (try dsimp only at hSw)
    go_simp
    try with_reducible rfl
  try simp only [Act.put, List.setIfInBounds_toArray, List.set_cons_zero, List.set_cons_succ]
  refine wpAnyH_take (i := 10) (oi := { dst := some 26, op := Op.fieldAddr 29 (Operand.tmp 25) 1, type := 0, pos := "ring.go:24", after := #[{ on := 9, ground := Ground.data }], guard := none }) (v := ?_) rfl (by kernel_rfl) (by kernel_rfl) (by kernel_rfl) (fun _ _ _ h => h) (Or.inl ⟨by rfl, ?_⟩) hHeld ?_
  rotate_left
  · intro w hSw
    (try dsimp only at hSw)
    go_simp
    try with_reducible rfl
  try simp only [Act.put, List.setIfInBounds_toArray, List.set_cons_zero, List.set_cons_succ]
  refine wpAnyH_take (i := 11) (oi := { dst := some 27, op := Op.load 3 (Operand.tmp 26), type := 3, pos := "ring.go:24", after := #[{ on := 10, ground := Ground.data }], guard := none }) (v := ?_) rfl (by kernel_rfl) (by kernel_rfl) (by kernel_rfl) (fun _ _ _ h => h) (Or.inl ⟨by rfl, ?_⟩) hHeld ?_
  rotate_left
  · intro w hSw
    (try dsimp only at hSw)
    go_simp
    try with_reducible rfl
  try simp only [Act.put, List.setIfInBounds_toArray, List.set_cons_zero, List.set_cons_succ]
  refine wpAnyH_take (i := 12) (oi := { dst := some 28, op := Op.binOp BinOp.add 3 (Operand.tmp 23) (Operand.tmp 27) 3, type := 3, pos := "ring.go:24", after := #[{ on := 7, ground := Ground.data }, { on := 11, ground := Ground.data }], guard := none }) (v := ?_) rfl (by kernel_rfl) (by kernel_rfl) (by kernel_rfl) (fun _ _ _ h => h) (Or.inl ⟨by rfl, ?_⟩) hHeld ?_
  rotate_left
  · intro w hSw
    (try dsimp only at hSw)
    go_simp
    try with_reducible rfl
  try simp only [Act.put, List.setIfInBounds_toArray, List.set_cons_zero, List.set_cons_succ]
  refine wpAnyH_take (i := 13) (oi := { dst := some 29, op := Op.move (Operand.tmp 0), type := 96, pos := "ring.go:24", after := #[], guard := none }) (v := ?_) rfl (by kernel_rfl) (by kernel_rfl) (by kernel_rfl) (fun _ _ _ h => h) (Or.inl ⟨by rfl, ?_⟩) hHeld ?_
  rotate_left
  · intro w hSw
    (try dsimp only at hSw)
    go_simp
    try with_reducible rfl
  try simp only [Act.put, List.setIfInBounds_toArray, List.set_cons_zero, List.set_cons_succ]
  refine wpAnyH_take (i := 14) (oi := { dst := some 30, op := Op.nilCheck (Operand.tmp 29), type := 0, pos := "ring.go:24", after := #[{ on := 13, ground := Ground.data }], guard := none }) (v := ?_) rfl (by kernel_rfl) (by kernel_rfl) (by kernel_rfl) (fun _ _ _ h => h) (Or.inl ⟨by rfl, ?_⟩) hHeld ?_
  rotate_left
  · intro w hSw
    (try dsimp only at hSw)
    go_simp
    try with_reducible rfl
  try simp only [Act.put, List.setIfInBounds_toArray, List.set_cons_zero, List.set_cons_succ]
  refine wpAnyH_take (i := 15) (oi := { dst := some 31, op := Op.fieldAddr 29 (Operand.tmp 30) 2, type := 0, pos := "ring.go:24", after := #[{ on := 14, ground := Ground.data }], guard := none }) (v := ?_) rfl (by kernel_rfl) (by kernel_rfl) (by kernel_rfl) (fun _ _ _ h => h) (Or.inl ⟨by rfl, ?_⟩) hHeld ?_
  rotate_left
  · intro w hSw
    (try dsimp only at hSw)
    go_simp
    try with_reducible rfl
  try simp only [Act.put, List.setIfInBounds_toArray, List.set_cons_zero, List.set_cons_succ]
  refine wpAnyH_take (i := 16) (oi := { dst := some 32, op := Op.load 27 (Operand.tmp 31), type := 27, pos := "ring.go:24", after := #[{ on := 15, ground := Ground.data }], guard := none }) (v := ?_) rfl (by kernel_rfl) (by kernel_rfl) (by kernel_rfl) (fun _ _ _ h => h) (Or.inl ⟨by rfl, ?_⟩) hHeld ?_
  rotate_left
  · intro w hSw
    (try dsimp only at hSw)
    go_simp
    try with_reducible rfl
  try simp only [Act.put, List.setIfInBounds_toArray, List.set_cons_zero, List.set_cons_succ]
  refine wpAnyH_take (i := 17) (oi := { dst := some 33, op := Op.call { callee := Callee.builtin Builtin.len, args := #[Operand.tmp 32], argTypes := #[27] }, type := 3, pos := "ring.go:24", after := #[{ on := 16, ground := Ground.data }], guard := none }) (v := ?_) rfl (by kernel_rfl) (by kernel_rfl) (by kernel_rfl) (fun _ _ _ h => h) (Or.inl ⟨by rfl, ?_⟩) hHeld ?_
  rotate_left
  · intro w hSw
    (try dsimp only at hSw)
    go_simp
    try with_reducible rfl
  try simp only [Act.put, List.setIfInBounds_toArray, List.set_cons_zero, List.set_cons_succ]
  refine wpAnyH_take (i := 18) (oi := { dst := some 34, op := Op.binOp BinOp.sub 3 (Operand.tmp 33) (Operand.const (Value.int IntKind.i64 1)) 3, type := 3, pos := "ring.go:24", after := #[{ on := 17, ground := Ground.data }], guard := none }) (v := ?_) rfl (by kernel_rfl) (by kernel_rfl) (by kernel_rfl) (fun _ _ _ h => h) (Or.inl ⟨by rfl, ?_⟩) hHeld ?_
  rotate_left
  · intro w hSw
    (try dsimp only at hSw)
    go_simp
    try with_reducible rfl
  try simp only [Act.put, List.setIfInBounds_toArray, List.set_cons_zero, List.set_cons_succ]
  refine wpAnyH_take (i := 19) (oi := { dst := some 35, op := Op.binOp BinOp.and 3 (Operand.tmp 28) (Operand.tmp 34) 3, type := 3, pos := "ring.go:24", after := #[{ on := 12, ground := Ground.data }, { on := 18, ground := Ground.data }], guard := none }) (v := ?_) rfl (by kernel_rfl) (by kernel_rfl) (by kernel_rfl) (fun _ _ _ h => h) (Or.inl ⟨by rfl, ?_⟩) hHeld ?_
  rotate_left
  · intro w hSw
    (try dsimp only at hSw)
    go_simp
    try with_reducible rfl
  try simp only [Act.put, List.setIfInBounds_toArray, List.set_cons_zero, List.set_cons_succ]
  refine wpAnyH_take (i := 20) (oi := { dst := some 36, op := Op.load 32 (Operand.tmp 3), type := 32, pos := "ring.go:24", after := #[], guard := none }) (v := ?_) rfl (by kernel_rfl) (by kernel_rfl) (by kernel_rfl) (fun _ _ _ h => h) (Or.inl ⟨by rfl, ?_⟩) hHeld ?_
  rotate_left
  · intro w hSw
    (try dsimp only at hSw)
    go_simp
    try with_reducible rfl
  try simp only [Act.put, List.setIfInBounds_toArray, List.set_cons_zero, List.set_cons_succ]
  refine wpAnyH_take (i := 21) (oi := { dst := some 37, op := Op.indexAddr 27 (Operand.tmp 19) (Operand.tmp 35), type := 0, pos := "ring.go:24", after := #[{ on := 3, ground := Ground.data }, { on := 19, ground := Ground.data }, { on := 0, ground := Ground.phase }, { on := 1, ground := Ground.phase }, { on := 2, ground := Ground.phase }, { on := 3, ground := Ground.phase }, { on := 4, ground := Ground.phase }, { on := 5, ground := Ground.phase }, { on := 6, ground := Ground.phase }, { on := 7, ground := Ground.phase }, { on := 8, ground := Ground.phase }, { on := 9, ground := Ground.phase }, { on := 10, ground := Ground.phase }, { on := 11, ground := Ground.phase }, { on := 12, ground := Ground.phase }, { on := 13, ground := Ground.phase }, { on := 14, ground := Ground.phase }, { on := 15, ground := Ground.phase }, { on := 16, ground := Ground.phase }, { on := 17, ground := Ground.phase }, { on := 18, ground := Ground.phase }, { on := 19, ground := Ground.phase }, { on := 20, ground := Ground.phase }], guard := none }) (v := ?_) rfl (by kernel_rfl) (by kernel_rfl) (by kernel_rfl) (fun _ _ _ h => h) (Or.inl ⟨by rfl, ?_⟩) hHeld ?_
  rotate_left
  · intro w hSw
    (try dsimp only at hSw)
    go_simp
    try with_reducible rfl
  try simp only [Act.put, List.setIfInBounds_toArray, List.set_cons_zero, List.set_cons_succ]
  refine wpAnyH_ready (rs := [22]) (by kernel_rfl) (by simp) ?_
  refine AllReadyH.cons (o := { dst := none, op := Op.store 32 (Operand.tmp 37) (Operand.tmp 36), type := 0, pos := "ring.go:24", after := #[{ on := 21, ground := Ground.data }, { on := 20, ground := Ground.data }, { on := 0, ground := Ground.phase }, { on := 1, ground := Ground.phase }, { on := 2, ground := Ground.phase }, { on := 3, ground := Ground.phase }, { on := 4, ground := Ground.phase }, { on := 5, ground := Ground.phase }, { on := 6, ground := Ground.phase }, { on := 7, ground := Ground.phase }, { on := 8, ground := Ground.phase }, { on := 9, ground := Ground.phase }, { on := 10, ground := Ground.phase }, { on := 11, ground := Ground.phase }, { on := 12, ground := Ground.phase }, { on := 13, ground := Ground.phase }, { on := 14, ground := Ground.phase }, { on := 15, ground := Ground.phase }, { on := 16, ground := Ground.phase }, { on := 17, ground := Ground.phase }, { on := 18, ground := Ground.phase }, { on := 19, ground := Ground.phase }, { on := 20, ground := Ground.phase }], guard := none }) rfl (fun K hK => ?_) AllReadyH.nil
  obtain ⟨g1, g2, g3, g4, g5, ⟨x1, g6⟩, ⟨x2, g7⟩, g8, g9⟩ := hHeld
  have g6' : W1.cell? ⟨bb, p * 2, none⟩ = some x1 := g6
  have g7' : W1.cell? ⟨bb, p * 2 + 1, none⟩ = some x2 := g7
  have g8' : W1.frozen? ⟨bb, p * 2, none⟩ = false := g8
  have g9' : W1.frozen? ⟨bb, p * 2 + 1, none⟩ = false := g9
  go_simp
  refine hK.out _ _ ?_ (fun hHeld => ?_)
  · exact ⟨(two_other hne).trans g1, (two_other hne).trans g2, (two_other hne).trans g3, (two_other n1).trans g4, (two_other n1).trans g5, ⟨.int .i64 t, (World.cell?_setCell_other _ _ _ _ (by simp)).trans (World.cell?_setCell_same _ _ _ g6)⟩, ⟨.pointer none, World.cell?_setCell_same _ _ _ ((World.cell?_setCell_other _ _ _ _ (by simp)).trans g7)⟩, by simpa using g8, by simpa using g9⟩
  clear hK K
  try simp only [Act.put]
  refine wpAnyH_done (by kernel_rfl) ?_ _
  go_wp2_with fail
  go_end0
  refine ⟨rfl, nq + 1, ?_⟩
  rw [HW.out]
  rfl
end Go.Proofs.Ybulkdpks
