/-
  '(*ring).push' where the row is full.
-/
import Derived.Test.YbulkdpksRows
import Derived.WalkKit
import Derived.ProofKit
import Derived.OpenShut
import Derived.WalkLawsBesides
import Derived.BigQuiet
import Derived.Laws.BitsAllLaws
import Derived.Laws.StructEq
import Derived.Outline
import Derived.Test.YbulkdpksHeap
import Derived.Test.YbulkdpksSync
import Derived.Test.YbulkdpksCrew
import Derived.Test.YbulkdpksPush
import Derived.Deep.RegionWith
import Derived.Deep.RegionHeld3
import Derived.Deep.DeepCutAuto
import Derived.Deep.DrawnRows
namespace Go.Proofs.Ybulkdpks
open Go.ChangeShapes Go.WideShapes Go.ChangeAt Go.RowKit
open Go.ChangeMaps (setBlock)
set_option linter.unusedVariables false


set_option maxRecDepth 100000 in
set_option maxHeartbeats 800000 in
/-- '(*ring).push' where the row is full: it grows first. R: what is known behind the growth. -/
theorem push_grow (cb b0 bb L M p : Nat) (k t : Int) (w : World) (R : World → Prop) (k0 : 0 ≤ k) (k1 : k ≤ 255) (hM : M ≤ 512) (hk : k = (L : Int)) (hM0 : 0 < M) (hp : bits .and .i64 (0 + k) ((M : Int) - 1) = (p : Int)) (hpM : p < M)
    (c7 : w.cell? ⟨cb, 7, none⟩ = some (.int .i64 k)) (c8 : w.cell? ⟨cb, 8, none⟩ = some (.slice (some ⟨b0, 0, none⟩) L L)) (hcb : cb < w.heap.size) (hne : cb ≠ bb) (n1 : w.heap.size ≠ bb)
    (HG : ∀ q, Calls Yba.prog 63 #[.pointer (some ⟨cb, 6, none⟩)] ((w.alloc (.cells #[.int .i64 t, .pointer none] 32)).drewN q) fun e w' => e = .returned (.tuple #[]) ∧ R w')
    (HR : ∀ w2, R w2 → (w2.cell? ⟨cb, 6, none⟩ = some (.int .i64 0) ∧ w2.cell? ⟨cb, 7, none⟩ = some (.int .i64 k) ∧ w2.cell? ⟨cb, 8, none⟩ = some (.slice (some ⟨bb, 0, none⟩) M M) ∧ w2.cell? ⟨w.heap.size, 0, none⟩ = some (.int .i64 t) ∧ w2.cell? ⟨w.heap.size, 1, none⟩ = some (.pointer none) ∧ (∃ x, w2.cell? ⟨bb, p * 2, none⟩ = some x) ∧ (∃ x, w2.cell? ⟨bb, p * 2 + 1, none⟩ = some x) ∧ w2.frozen? ⟨bb, p * 2, none⟩ = false ∧ w2.frozen? ⟨bb, p * 2 + 1, none⟩ = false) ∧ w2.frozen? ⟨cb, 7, none⟩ = false) :
    Calls Yba.prog 51 #[.pointer (some ⟨cb, 6, none⟩), .agg #[.int .i64 t, .pointer none]] w fun e w' => e = .returned (.tuple #[]) ∧
      ∃ w2 q, R w2 ∧ w' = (((w2.setCell ⟨bb, p * 2, none⟩ (.int .i64 t)).setCell ⟨bb, p * 2 + 1, none⟩ (.pointer none)).setCell ⟨cb, 7, none⟩ (.int .i64 (k + 1))).drewN q := by
  have hw1 : IntKind.i64.wrap k = k := by rw [IntKind.wrap_i64]; omega
  rw [Int.zero_add] at hp
  have hw2 : IntKind.i64.wrap ((M : Int) - 1) = (M : Int) - 1 := by rw [IntKind.wrap_i64]; omega
  have hw3 : IntKind.i64.wrap (k + 1) = k + 1 := by rw [IntKind.wrap_i64]; omega
  have hp1 : (p : Int) < (M : Int) := by omega
  have hke : (k == (L : Int)) = true := by simp [hk]
  have HG' := hide HG
  have HR' := hide HR
  have Hk := hide hk
  clear HG HR hk
  go_enter Yba.func51, Yba.ntmps51
  go_wp2_with fail
  go_quiet (fail)
  go_wp2_with (go_at_call 63; refine (HG'.out _).mono ?_; rintro e W1 ⟨rfl, hR⟩)
  obtain ⟨HS, zc'⟩ := HR'.out W1 hR
  have c7' : W1.cell? ⟨cb, 7, none⟩ = some (.int .i64 k) := HS.2.1
  obtain ⟨jb, hjb⟩ : ∃ jb, jb = w.heap.size := ⟨_, rfl⟩
  have HRW := hide hR
  clear hR
  rw [← hjb] at HS n1
  rw [← hjb]
  clear hjb c7 c8
  refine wp_region_held_drew (S := fun w' => w'.cell? ⟨cb, 6, none⟩ = some (.int .i64 0) ∧ w'.cell? ⟨cb, 7, none⟩ = some (.int .i64 k) ∧ w'.cell? ⟨cb, 8, none⟩ = some (.slice (some ⟨bb, 0, none⟩) M M) ∧ w'.cell? ⟨jb, 0, none⟩ = some (.int .i64 t) ∧ w'.cell? ⟨jb, 1, none⟩ = some (.pointer none) ∧ (∃ x, w'.cell? ⟨bb, p * 2, none⟩ = some x) ∧ (∃ x, w'.cell? ⟨bb, p * 2 + 1, none⟩ = some x) ∧ w'.frozen? ⟨bb, p * 2, none⟩ = false ∧ w'.frozen? ⟨bb, p * 2 + 1, none⟩ = false) (by kernel_rfl) ?_ (fun hHeld => ?_)
  · exact HS
  refine wpAnyH_take (i := 0) (oi := { dst := some 16, op := Op.move (Operand.tmp 0), type := 96, pos := "ring.go:24", after := #[], guard := none }) (v := ?_) rfl (by kernel_rfl) (by kernel_rfl) (by kernel_rfl) (fun _ _ _ h => h) (Or.inl ⟨by rfl, ?_⟩) hHeld ?_
  rotate_left
  · intro w hSw
    (try dsimp only at hSw)
    go_simp
    try with_reducible rfl
  try simp only [Act.put, List.setIfInBounds_toArray, List.set_cons_zero, List.set_cons_succ]
  refine wpAnyH_take (i := 1) (oi := { dst := some 17, op := Op.nilCheck (Operand.tmp 16), type := 0, pos := "ring.go:24", after := #[{ on := 0, ground := Ground.data }], guard := none }) (v := ?_) rfl (by kernel_rfl) (by kernel_rfl) (by kernel_rfl) (fun _ _ _ h => h) (Or.inl ⟨by rfl, ?_⟩) hHeld ?_
  rotate_left
  · intro w hSw
    (try dsimp only at hSw)
    go_simp
    try with_reducible rfl
  try simp only [Act.put, List.setIfInBounds_toArray, List.set_cons_zero, List.set_cons_succ]
  refine wpAnyH_take (i := 2) (oi := { dst := some 18, op := Op.fieldAddr 29 (Operand.tmp 17) 2, type := 0, pos := "ring.go:24", after := #[{ on := 1, ground := Ground.data }], guard := none }) (v := ?_) rfl (by kernel_rfl) (by kernel_rfl) (by kernel_rfl) (fun _ _ _ h => h) (Or.inl ⟨by rfl, ?_⟩) hHeld ?_
  rotate_left
  · intro w hSw
    (try dsimp only at hSw)
    go_simp
    try with_reducible rfl
  try simp only [Act.put, List.setIfInBounds_toArray, List.set_cons_zero, List.set_cons_succ]
  refine wpAnyH_take (i := 3) (oi := { dst := some 19, op := Op.load 27 (Operand.tmp 18), type := 27, pos := "ring.go:24", after := #[{ on := 2, ground := Ground.data }], guard := none }) (v := ?_) rfl (by kernel_rfl) (by kernel_rfl) (by kernel_rfl) (fun _ _ _ h => h) (Or.inl ⟨by rfl, ?_⟩) hHeld ?_
  rotate_left
  · intro w hSw
    (try dsimp only at hSw)
    go_simp
    try with_reducible rfl
  try simp only [Act.put, List.setIfInBounds_toArray, List.set_cons_zero, List.set_cons_succ]
  refine wpAnyH_take (i := 4) (oi := { dst := some 20, op := Op.move (Operand.tmp 0), type := 96, pos := "ring.go:24", after := #[], guard := none }) (v := ?_) rfl (by kernel_rfl) (by kernel_rfl) (by kernel_rfl) (fun _ _ _ h => h) (Or.inl ⟨by rfl, ?_⟩) hHeld ?_
  rotate_left
  · intro w hSw
    (try dsimp only at hSw)
    go_simp
    try with_reducible rfl
  try simp only [Act.put, List.setIfInBounds_toArray, List.set_cons_zero, List.set_cons_succ]
  refine wpAnyH_take (i := 5) (oi := { dst := some 21, op := Op.nilCheck (Operand.tmp 20), type := 0, pos := "ring.go:24", after := #[{ on := 4, ground := Ground.data }], guard := none }) (v := ?_) rfl (by kernel_rfl) (by kernel_rfl) (by kernel_rfl) (fun _ _ _ h => h) (Or.inl ⟨by rfl, ?_⟩) hHeld ?_
  rotate_left
  · intro w hSw
    (try dsimp only at hSw)
    go_simp
    try with_reducible rfl
  try simp only [Act.put, List.setIfInBounds_toArray, List.set_cons_zero, List.set_cons_succ]
  refine wpAnyH_take (i := 6) (oi := { dst := some 22, op := Op.fieldAddr 29 (Operand.tmp 21) 0, type := 0, pos := "ring.go:24", after := #[{ on := 5, ground := Ground.data }], guard := none }) (v := ?_) rfl (by kernel_rfl) (by kernel_rfl) (by kernel_rfl) (fun _ _ _ h => h) (Or.inl ⟨by rfl, ?_⟩) hHeld ?_
  rotate_left
  · intro w hSw
    (try dsimp only at hSw)
    go_simp
    try with_reducible rfl
  try simp only [Act.put, List.setIfInBounds_toArray, List.set_cons_zero, List.set_cons_succ]
  refine wpAnyH_take (i := 7) (oi := { dst := some 23, op := Op.load 3 (Operand.tmp 22), type := 3, pos := "ring.go:24", after := #[{ on := 6, ground := Ground.data }], guard := none }) (v := ?_) rfl (by kernel_rfl) (by kernel_rfl) (by kernel_rfl) (fun _ _ _ h => h) (Or.inl ⟨by rfl, ?_⟩) hHeld ?_
  rotate_left
  · intro w hSw
    (try dsimp only at hSw)
    go_simp
    try with_reducible rfl
  try simp only [Act.put, List.setIfInBounds_toArray, List.set_cons_zero, List.set_cons_succ]
  refine wpAnyH_take (i := 8) (oi := { dst := some 24, op := Op.move (Operand.tmp 0), type := 96, pos := "ring.go:24", after := #[], guard := none }) (v := ?_) rfl (by kernel_rfl) (by kernel_rfl) (by kernel_rfl) (fun _ _ _ h => h) (Or.inl ⟨by rfl, ?_⟩) hHeld ?_
  rotate_left
  · intro w hSw
    (try dsimp only at hSw)
    go_simp
    try with_reducible rfl
  try simp only [Act.put, List.setIfInBounds_toArray, List.set_cons_zero, List.set_cons_succ]
  refine wpAnyH_take (i := 9) (oi := { dst := some 25, op := Op.nilCheck (Operand.tmp 24), type := 0, pos := "ring.go:24", after := #[{ on := 8, ground := Ground.data }], guard := none }) (v := ?_) rfl (by kernel_rfl) (by kernel_rfl) (by kernel_rfl) (fun _ _ _ h => h) (Or.inl ⟨by rfl, ?_⟩) hHeld ?_
  rotate_left
  · intro w hSw
    (try dsimp only at hSw)
    go_simp
    try with_reducible rfl
  try simp only [Act.put, List.setIfInBounds_toArray, List.set_cons_zero, List.set_cons_succ]
  refine wpAnyH_take (i := 10) (oi := { dst := some 26, op := Op.fieldAddr 29 (Operand.tmp 25) 1, type := 0, pos := "ring.go:24", after := #[{ on := 9, ground := Ground.data }], guard := none }) (v := ?_) rfl (by kernel_rfl) (by kernel_rfl) (by kernel_rfl) (fun _ _ _ h => h) (Or.inl ⟨by rfl, ?_⟩) hHeld ?_
  rotate_left
  · intro w hSw
    (try dsimp only at hSw)
    go_simp
    try with_reducible rfl
  try simp only [Act.put, List.setIfInBounds_toArray, List.set_cons_zero, List.set_cons_succ]
  refine wpAnyH_take (i := 11) (oi := { dst := some 27, op := Op.load 3 (Operand.tmp 26), type := 3, pos := "ring.go:24", after := #[{ on := 10, ground := Ground.data }], guard := none }) (v := ?_) rfl (by kernel_rfl) (by kernel_rfl) (by kernel_rfl) (fun _ _ _ h => h) (Or.inl ⟨by rfl, ?_⟩) hHeld ?_
  rotate_left
  · intro w hSw
    (try dsimp only at hSw)
    go_simp
    try with_reducible rfl
  try simp only [Act.put, List.setIfInBounds_toArray, List.set_cons_zero, List.set_cons_succ]
  refine wpAnyH_take (i := 12) (oi := { dst := some 28, op := Op.binOp BinOp.add 3 (Operand.tmp 23) (Operand.tmp 27) 3, type := 3, pos := "ring.go:24", after := #[{ on := 7, ground := Ground.data }, { on := 11, ground := Ground.data }], guard := none }) (v := ?_) rfl (by kernel_rfl) (by kernel_rfl) (by kernel_rfl) (fun _ _ _ h => h) (Or.inl ⟨by rfl, ?_⟩) hHeld ?_
  rotate_left
  · intro w hSw
    (try dsimp only at hSw)
    go_simp
    try with_reducible rfl
  try simp only [Act.put, List.setIfInBounds_toArray, List.set_cons_zero, List.set_cons_succ]
  refine wpAnyH_take (i := 13) (oi := { dst := some 29, op := Op.move (Operand.tmp 0), type := 96, pos := "ring.go:24", after := #[], guard := none }) (v := ?_) rfl (by kernel_rfl) (by kernel_rfl) (by kernel_rfl) (fun _ _ _ h => h) (Or.inl ⟨by rfl, ?_⟩) hHeld ?_
  rotate_left
  · intro w hSw
    (try dsimp only at hSw)
    go_simp
    try with_reducible rfl
  try simp only [Act.put, List.setIfInBounds_toArray, List.set_cons_zero, List.set_cons_succ]
  refine wpAnyH_take (i := 14) (oi := { dst := some 30, op := Op.nilCheck (Operand.tmp 29), type := 0, pos := "ring.go:24", after := #[{ on := 13, ground := Ground.data }], guard := none }) (v := ?_) rfl (by kernel_rfl) (by kernel_rfl) (by kernel_rfl) (fun _ _ _ h => h) (Or.inl ⟨by rfl, ?_⟩) hHeld ?_
  rotate_left
  · intro w hSw
    (try dsimp only at hSw)
    go_simp
    try with_reducible rfl
  try simp only [Act.put, List.setIfInBounds_toArray, List.set_cons_zero, List.set_cons_succ]
  refine wpAnyH_take (i := 15) (oi := { dst := some 31, op := Op.fieldAddr 29 (Operand.tmp 30) 2, type := 0, pos := "ring.go:24", after := #[{ on := 14, ground := Ground.data }], guard := none }) (v := ?_) rfl (by kernel_rfl) (by kernel_rfl) (by kernel_rfl) (fun _ _ _ h => h) (Or.inl ⟨by rfl, ?_⟩) hHeld ?_
  rotate_left
  · intro w hSw
    (try dsimp only at hSw)
    go_simp
    try with_reducible rfl
  try simp only [Act.put, List.setIfInBounds_toArray, List.set_cons_zero, List.set_cons_succ]
  refine wpAnyH_take (i := 16) (oi := { dst := some 32, op := Op.load 27 (Operand.tmp 31), type := 27, pos := "ring.go:24", after := #[{ on := 15, ground := Ground.data }], guard := none }) (v := ?_) rfl (by kernel_rfl) (by kernel_rfl) (by kernel_rfl) (fun _ _ _ h => h) (Or.inl ⟨by rfl, ?_⟩) hHeld ?_
  rotate_left
  · intro w hSw
    (try dsimp only at hSw)
    go_simp
    try with_reducible rfl
  try simp only [Act.put, List.setIfInBounds_toArray, List.set_cons_zero, List.set_cons_succ]
  refine wpAnyH_take (i := 17) (oi := { dst := some 33, op := Op.call { callee := Callee.builtin Builtin.len, args := #[Operand.tmp 32], argTypes := #[27] }, type := 3, pos := "ring.go:24", after := #[{ on := 16, ground := Ground.data }], guard := none }) (v := ?_) rfl (by kernel_rfl) (by kernel_rfl) (by kernel_rfl) (fun _ _ _ h => h) (Or.inl ⟨by rfl, ?_⟩) hHeld ?_
  rotate_left
  · intro w hSw
    (try dsimp only at hSw)
    go_simp
    try with_reducible rfl
  try simp only [Act.put, List.setIfInBounds_toArray, List.set_cons_zero, List.set_cons_succ]
  refine wpAnyH_take (i := 18) (oi := { dst := some 34, op := Op.binOp BinOp.sub 3 (Operand.tmp 33) (Operand.const (Value.int IntKind.i64 1)) 3, type := 3, pos := "ring.go:24", after := #[{ on := 17, ground := Ground.data }], guard := none }) (v := ?_) rfl (by kernel_rfl) (by kernel_rfl) (by kernel_rfl) (fun _ _ _ h => h) (Or.inl ⟨by rfl, ?_⟩) hHeld ?_
  rotate_left
  · intro w hSw
    (try dsimp only at hSw)
    go_simp
    try with_reducible rfl
  try simp only [Act.put, List.setIfInBounds_toArray, List.set_cons_zero, List.set_cons_succ]
  refine wpAnyH_take (i := 19) (oi := { dst := some 35, op := Op.binOp BinOp.and 3 (Operand.tmp 28) (Operand.tmp 34) 3, type := 3, pos := "ring.go:24", after := #[{ on := 12, ground := Ground.data }, { on := 18, ground := Ground.data }], guard := none }) (v := ?_) rfl (by kernel_rfl) (by kernel_rfl) (by kernel_rfl) (fun _ _ _ h => h) (Or.inl ⟨by rfl, ?_⟩) hHeld ?_
  rotate_left
  · intro w hSw
    (try dsimp only at hSw)
    go_simp
    try with_reducible rfl
  try simp only [Act.put, List.setIfInBounds_toArray, List.set_cons_zero, List.set_cons_succ]
  refine wpAnyH_take (i := 20) (oi := { dst := some 36, op := Op.load 32 (Operand.tmp 3), type := 32, pos := "ring.go:24", after := #[], guard := none }) (v := ?_) rfl (by kernel_rfl) (by kernel_rfl) (by kernel_rfl) (fun _ _ _ h => h) (Or.inl ⟨by rfl, ?_⟩) hHeld ?_
  rotate_left
  · intro w hSw
    (try dsimp only at hSw)
    go_simp
    try with_reducible rfl
  try simp only [Act.put, List.setIfInBounds_toArray, List.set_cons_zero, List.set_cons_succ]
  refine wpAnyH_take (i := 21) (oi := { dst := some 37, op := Op.indexAddr 27 (Operand.tmp 19) (Operand.tmp 35), type := 0, pos := "ring.go:24", after := #[{ on := 3, ground := Ground.data }, { on := 19, ground := Ground.data }, { on := 0, ground := Ground.phase }, { on := 1, ground := Ground.phase }, { on := 2, ground := Ground.phase }, { on := 3, ground := Ground.phase }, { on := 4, ground := Ground.phase }, { on := 5, ground := Ground.phase }, { on := 6, ground := Ground.phase }, { on := 7, ground := Ground.phase }, { on := 8, ground := Ground.phase }, { on := 9, ground := Ground.phase }, { on := 10, ground := Ground.phase }, { on := 11, ground := Ground.phase }, { on := 12, ground := Ground.phase }, { on := 13, ground := Ground.phase }, { on := 14, ground := Ground.phase }, { on := 15, ground := Ground.phase }, { on := 16, ground := Ground.phase }, { on := 17, ground := Ground.phase }, { on := 18, ground := Ground.phase }, { on := 19, ground := Ground.phase }, { on := 20, ground := Ground.phase }], guard := none }) (v := ?_) rfl (by kernel_rfl) (by kernel_rfl) (by kernel_rfl) (fun _ _ _ h => h) (Or.inl ⟨by rfl, ?_⟩) hHeld ?_
  rotate_left
  · intro w hSw
    (try dsimp only at hSw)
    go_simp
    try with_reducible rfl
  try simp only [Act.put, List.setIfInBounds_toArray, List.set_cons_zero, List.set_cons_succ]
  refine wpAnyH_ready (rs := [22]) (by kernel_rfl) (by simp) ?_
  refine AllReadyH.cons (o := { dst := none, op := Op.store 32 (Operand.tmp 37) (Operand.tmp 36), type := 0, pos := "ring.go:24", after := #[{ on := 21, ground := Ground.data }, { on := 20, ground := Ground.data }, { on := 0, ground := Ground.phase }, { on := 1, ground := Ground.phase }, { on := 2, ground := Ground.phase }, { on := 3, ground := Ground.phase }, { on := 4, ground := Ground.phase }, { on := 5, ground := Ground.phase }, { on := 6, ground := Ground.phase }, { on := 7, ground := Ground.phase }, { on := 8, ground := Ground.phase }, { on := 9, ground := Ground.phase }, { on := 10, ground := Ground.phase }, { on := 11, ground := Ground.phase }, { on := 12, ground := Ground.phase }, { on := 13, ground := Ground.phase }, { on := 14, ground := Ground.phase }, { on := 15, ground := Ground.phase }, { on := 16, ground := Ground.phase }, { on := 17, ground := Ground.phase }, { on := 18, ground := Ground.phase }, { on := 19, ground := Ground.phase }, { on := 20, ground := Ground.phase }], guard := none }) rfl (fun K hK => ?_) AllReadyH.nil
  obtain ⟨g1, g2, g3, g4, g5, ⟨x1, g6⟩, ⟨x2, g7⟩, g8, g9⟩ := hHeld
  have g6' : W1.cell? ⟨bb, p * 2, none⟩ = some x1 := g6
  have g7' : W1.cell? ⟨bb, p * 2 + 1, none⟩ = some x2 := g7
  have g8' : W1.frozen? ⟨bb, p * 2, none⟩ = false := g8
  have g9' : W1.frozen? ⟨bb, p * 2 + 1, none⟩ = false := g9
  go_simp
  refine hK.out _ _ ?_ (fun hHeld => ?_)
  · exact ⟨(two_other hne).trans g1, (two_other hne).trans g2, (two_other hne).trans g3, (two_other n1).trans g4, (two_other n1).trans g5, ⟨.int .i64 t, (World.cell?_setCell_other _ _ _ _ (by simp)).trans (World.cell?_setCell_same _ _ _ g6)⟩, ⟨.pointer none, World.cell?_setCell_same _ _ _ ((World.cell?_setCell_other _ _ _ _ (by simp)).trans g7)⟩, by simpa using g8, by simpa using g9⟩
  clear hK K
  try simp only [Act.put]
  refine wpAnyH_done (by kernel_rfl) ?_ _
  go_wp2_with fail
  go_end0
  exact ⟨rfl, W1, 1, HRW.out, rfl⟩
end Go.Proofs.Ybulkdpks
