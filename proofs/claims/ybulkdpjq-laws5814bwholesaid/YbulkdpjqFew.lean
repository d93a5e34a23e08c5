/-
  (*store).handedOn where few replicas do: the region taken operation by operation (four of them are skipped).
-/
import Derived.Test.YbulkdpjqRows
import Derived.WalkKit
import Derived.ProofKit
import Derived.OpenShut
import Derived.WalkLawsBesides
import Derived.BigQuiet
import Derived.Laws.BitsAllLaws
import Derived.Laws.StructEq
import Derived.Outline
import Derived.Test.YbulkdpjqHeap
import Derived.Test.YbulkdpjqHanded
import Derived.Test.YbulkdpjqRec
import Derived.Deep.RegionWith
import Derived.Deep.RegionHeld3
import Derived.Deep.DeepCutAuto
import Derived.Deep.DrawnRows
namespace Go.Proofs.Ybulkdpjq
open Go.ChangeShapes Go.WideShapes Go.ChangeAt Go.RowKit
open Go.ChangeMaps (setBlock)
set_option linter.unusedVariables false

attribute [local go_sem] Go.wp_at_zero Go.wp_at_succ
set_option maxRecDepth 100000 in
set_option maxHeartbeats 800000 in
theorem ho_time_few (sb rb mb eb hb : Nat) (t : ByteArray) (k a h l : Int) (w : World) (h0 : -2305843009213693952 ≤ h) (h1 : h ≤ 2305843009213693952) (l0 : -2305843009213693952 ≤ l) (l1 : l ≤ 2305843009213693952) (hs : sb < w.heap.size) (hr : rb < w.heap.size) (s0 : w.cell? ⟨sb, 0, none⟩ = some (.map (some mb))) (r0 : w.cell? ⟨rb, 0, none⟩ = some (.string t))
    (hlook : ∀ n, (Instr.lookup 43 (.map (some mb)) (.agg (KC t k)) true).run Yba.prog ((HW w k a).drewN n) = .ok (.tuple #[.pointer (some ⟨eb, 0, none⟩), .bool true]) ((HW w k a).drewN n))
    (he : eb < w.heap.size) (e34 : w.cell? ⟨eb, 34, none⟩ = some (.pointer (some ⟨hb, 0, none⟩))) (e35 : w.cell? ⟨eb, 35, none⟩ = some (.int .u64 (h % 1000000000))) (e36 : w.cell? ⟨eb, 36, none⟩ = some (.int .i64 (h / 1000000000))) (e37 : w.cell? ⟨eb, 37, none⟩ = some (.pointer none)) (s5 : w.cell? ⟨sb, 5, none⟩ = some (.int .i64 l)) (hsame : Hid (∀ n, Calls Yba.prog 15 #[.pointer (some ⟨rb, 0, none⟩), .pointer (some ⟨hb, 0, none⟩)] ((HW w k a).drewN n) fun e w' => e = .returned (.bool true) ∧ ∃ m, w' = ((HW w k a).drewN n).drewN m)) :
    Calls Yba.prog 7 #[.pointer (some ⟨sb, 0, none⟩), .agg (idC k), .pointer (some ⟨rb, 0, none⟩), .bool true, AT a] w fun e w' => e = .returned (.bool (!decide (h + l < a))) ∧ Below w.heap.size w w' := by
  have b1 : sb < w.heap.size + 1 := by omega
  have b2 : rb < w.heap.size + 1 := by omega
  have b3 : eb < w.heap.size + 1 := by omega
  unfold AT
  go_enter Yba.func7, Yba.ntmps7
  go_wp2_with fail
  refine wp_region_quiet_lit (by kernel_rfl) (by kernel_rfl) ?_
  iterate 8 (go_big_quiet_step (fail))
  go_big_quiet_want
  refine quiet_load_row 30 (.tmp 6) rfl w.heap.size rfl (idC k).toList _ (HW.id w k a) Yba.underlying30 rfl info30 ?_
  simp only [Act.put, List.setIfInBounds_toArray, List.set_cons_succ, List.set_cons_zero]
  go_big_quiet_on
  repeat (go_big_quiet_step (fail))
  refine wpQuiet_nil ?_
  intro _ hw'
  obtain ⟨nq, hw''⟩ := hw'
  subst hw''
  rename Nat => n1
  obtain ⟨W1, hW1⟩ : ∃ W1, W1 = (HW w k a).drewN n1 := ⟨_, rfl⟩
  have hb1 : Below w.heap.size w W1 := by rw [hW1]; exact below_drewN (HW.below w k a) _
  have hz : W1.heap.size = w.heap.size + 1 + 1 := by rw [hW1]; simp [World.drewN]
  have hsm : ∀ n, Calls Yba.prog 15 #[.pointer (some ⟨rb, 0, none⟩), .pointer (some ⟨hb, 0, none⟩)] (W1.drewN n) fun e w' => e = .returned (.bool true) ∧ ∃ m, w' = (W1.drewN n).drewN m := by
    intro n; rw [hW1, World.drewN_drewN]; exact hsame.out _
  have f34 := (hb1.cell (p := ⟨eb, 34, none⟩) he).trans e34
  have f35 := (hb1.cell (p := ⟨eb, 35, none⟩) he).trans e35
  have f36 := (hb1.cell (p := ⟨eb, 36, none⟩) he).trans e36
  have f37 := (hb1.cell (p := ⟨eb, 37, none⟩) he).trans e37
  have g5 := (hb1.cell (p := ⟨sb, 5, none⟩) hs).trans s5
  obtain ⟨tb, htb⟩ : ∃ tb, tb = w.heap.size + 1 := ⟨_, rfl⟩
  have hblk : W1.heap[tb]? = some (.cells #[.int .u64 (a % 1000000000), .int .i64 (a / 1000000000), .pointer none] 40) := by rw [hW1, htb]; exact hp_alloc_at (by simp)
  have t0 : W1.cell? ⟨tb, 0, none⟩ = some (.int .u64 (a % 1000000000)) := cell_at hblk rfl
  have t1 : W1.cell? ⟨tb, 1, none⟩ = some (.int .i64 (a / 1000000000)) := cell_at hblk rfl
  have t2 : W1.cell? ⟨tb, 2, none⟩ = some (.pointer none) := cell_at hblk rfl
  have z1 : tb < W1.heap.size := by omega
  have z2 : tb < W1.heap.size + 1 := by omega
  have z3 : eb < W1.heap.size := by omega
  have z4 : eb < W1.heap.size + 1 := by omega
  have z5 : sb < W1.heap.size := by omega
  have z6 : sb < W1.heap.size + 1 := by omega
  have HSM := hide hsm
  have HB := hide hb1
  have HZ := hide hz
  rw [← hW1, ← htb]
  clear hW1 htb hblk hsm hb1 hz hsame hlook s0 r0 e34 e35 e36 e37 s5 b1 b2 b3
  generalize Value.agg (idC k) = va
  generalize Value.agg (KC t k) = vk
  go_wp2_with fail
  refine wp_region_held_drew (S := (fun w' => w'.cell? ⟨eb, 34, none⟩ = some (.pointer (some ⟨hb, 0, none⟩)) ∧ w'.cell? ⟨eb, 35, none⟩ = some (.int .u64 (h % 1000000000)) ∧ w'.cell? ⟨eb, 36, none⟩ = some (.int .i64 (h / 1000000000)) ∧ w'.cell? ⟨eb, 37, none⟩ = some (.pointer none) ∧ w'.cell? ⟨sb, 5, none⟩ = some (.int .i64 l) ∧ w'.cell? ⟨tb, 0, none⟩ = some (.int .u64 (a % 1000000000)) ∧ w'.cell? ⟨tb, 1, none⟩ = some (.int .i64 (a / 1000000000)) ∧ w'.cell? ⟨tb, 2, none⟩ = some (.pointer none))) (by kernel_rfl) ?_ (fun hHeld => ?_)
  · (try dsimp only)
    go_keep
  refine wpAnyH_take (i := 0) (oi := { dst := some 27, op := Op.move (Operand.tmp 12), type := 4, pos := "store.go:244", after := #[], guard := none }) (v := ?_) rfl (by kernel_rfl) (by kernel_rfl) (by kernel_rfl) (fun _ _ _ h => h) (Or.inl ⟨by rfl, ?_⟩) (by assumption) ?_
  rotate_left
  · intro w hSw
    (try dsimp only at hSw)
    go_simp
    try with_reducible rfl
  try simp only [Act.put, List.setIfInBounds_toArray, List.set_cons_zero, List.set_cons_succ]
  refine wpAnyH_take (i := 1) (oi := { dst := some 28, op := Op.move (Operand.tmp 27), type := 4, pos := "store.go:244", after := #[{ on := 0, ground := Ground.data }], guard := none }) (v := ?_) rfl (by kernel_rfl) (by kernel_rfl) (by kernel_rfl) (fun _ _ _ h => h) (Or.inl ⟨by rfl, ?_⟩) (by assumption) ?_
  rotate_left
  · intro w hSw
    (try dsimp only at hSw)
    go_simp
    try with_reducible rfl
  try simp only [Act.put, List.setIfInBounds_toArray, List.set_cons_zero, List.set_cons_succ]
  refine wpAnyH_take (i := 2) (oi := { dst := some 29, op := Op.move (Operand.tmp 11), type := 44, pos := "store.go:244", after := #[{ on := 1, ground := Ground.guard }], guard := some (1, true) }) (v := ?_) rfl (by kernel_rfl) (by kernel_rfl) (by kernel_rfl) (fun _ _ _ h => h) (Or.inl ⟨by rfl, ?_⟩) (by assumption) ?_
  rotate_left
  · intro w hSw
    (try dsimp only at hSw)
    go_simp
    try with_reducible rfl
  try simp only [Act.put, List.setIfInBounds_toArray, List.set_cons_zero, List.set_cons_succ]
  refine wpAnyH_take (i := 3) (oi := { dst := some 30, op := Op.nilCheck (Operand.tmp 29), type := 0, pos := "store.go:244", after := #[{ on := 2, ground := Ground.data }, { on := 1, ground := Ground.guard }], guard := some (1, true) }) (v := ?_) rfl (by kernel_rfl) (by kernel_rfl) (by kernel_rfl) (fun _ _ _ h => h) (Or.inl ⟨by rfl, ?_⟩) (by assumption) ?_
  rotate_left
  · intro w hSw
    (try dsimp only at hSw)
    go_simp
    try with_reducible rfl
  try simp only [Act.put, List.setIfInBounds_toArray, List.set_cons_zero, List.set_cons_succ]
  refine wpAnyH_take (i := 4) (oi := { dst := some 31, op := Op.fieldAddr 48 (Operand.tmp 30) 2, type := 0, pos := "store.go:244", after := #[{ on := 3, ground := Ground.data }, { on := 1, ground := Ground.guard }], guard := some (1, true) }) (v := ?_) rfl (by kernel_rfl) (by kernel_rfl) (by kernel_rfl) (fun _ _ _ h => h) (Or.inl ⟨by rfl, ?_⟩) (by assumption) ?_
  rotate_left
  · intro w hSw
    (try dsimp only at hSw)
    go_simp
    try with_reducible rfl
  try simp only [Act.put, List.setIfInBounds_toArray, List.set_cons_zero, List.set_cons_succ]
  refine wpAnyH_take (i := 5) (oi := { dst := some 32, op := Op.load 31 (Operand.tmp 31), type := 31, pos := "store.go:244", after := #[{ on := 4, ground := Ground.data }, { on := 1, ground := Ground.guard }], guard := some (1, true) }) (v := ?_) rfl (by kernel_rfl) (by kernel_rfl) (by kernel_rfl) (fun _ _ _ h => h) (Or.inl ⟨by rfl, ?_⟩) (by assumption) ?_
  rotate_left
  · intro w hSw
    (try dsimp only at hSw)
    go_simp
    try with_reducible rfl
  try simp only [Act.put, List.setIfInBounds_toArray, List.set_cons_zero, List.set_cons_succ]
  refine wpAnyH_take (i := 6) (oi := { dst := some 33, op := Op.binOp BinOp.neq 31 (Operand.tmp 32) (Operand.const (Value.pointer none)) 31, type := 4, pos := "store.go:244", after := #[{ on := 5, ground := Ground.data }, { on := 1, ground := Ground.guard }], guard := some (1, true) }) (v := ?_) rfl (by kernel_rfl) (by kernel_rfl) (by kernel_rfl) (fun _ _ _ h => h) (Or.inl ⟨by rfl, ?_⟩) (by assumption) ?_
  rotate_left
  · intro w hSw
    (try dsimp only at hSw)
    go_simp
    try with_reducible rfl
  try simp only [Act.put, List.setIfInBounds_toArray, List.set_cons_zero, List.set_cons_succ]
  refine wpAnyH_take (i := 7) (oi := { dst := some 34, op := Op.pick (Operand.tmp 28) (Operand.tmp 33) (Operand.const (Value.bool false)), type := 4, pos := "store.go:244", after := #[{ on := 1, ground := Ground.data }, { on := 6, ground := Ground.data }], guard := none }) (v := ?_) rfl (by kernel_rfl) (by kernel_rfl) (by kernel_rfl) (fun _ _ _ h => h) (Or.inl ⟨by rfl, ?_⟩) (by assumption) ?_
  rotate_left
  · intro w hSw
    (try dsimp only at hSw)
    go_simp
    try with_reducible rfl
  try simp only [Act.put, List.setIfInBounds_toArray, List.set_cons_zero, List.set_cons_succ]
  refine wpAnyH_take (i := 8) (oi := { dst := some 35, op := Op.move (Operand.tmp 34), type := 4, pos := "store.go:244", after := #[{ on := 7, ground := Ground.data }, { on := 1, ground := Ground.chain }], guard := none }) (v := ?_) rfl (by kernel_rfl) (by kernel_rfl) (by kernel_rfl) (fun _ _ _ h => h) (Or.inl ⟨by rfl, ?_⟩) (by assumption) ?_
  rotate_left
  · intro w hSw
    (try dsimp only at hSw)
    go_simp
    try with_reducible rfl
  try simp only [Act.put, List.setIfInBounds_toArray, List.set_cons_zero, List.set_cons_succ]
  refine wpAnyH_take (i := 9) (oi := { dst := some 36, op := Op.move (Operand.tmp 2), type := 31, pos := "store.go:244", after := #[{ on := 8, ground := Ground.guard }], guard := some (8, true) }) (v := ?_) rfl (by kernel_rfl) (by kernel_rfl) (by kernel_rfl) (fun _ _ _ h => h) (Or.inl ⟨by rfl, ?_⟩) (by assumption) ?_
  rotate_left
  · intro w hSw
    (try dsimp only at hSw)
    go_simp
    try with_reducible rfl
  try simp only [Act.put, List.setIfInBounds_toArray, List.set_cons_zero, List.set_cons_succ]
  refine wpAnyH_take (i := 10) (oi := { dst := some 37, op := Op.move (Operand.tmp 11), type := 44, pos := "store.go:244", after := #[{ on := 8, ground := Ground.guard }], guard := some (8, true) }) (v := ?_) rfl (by kernel_rfl) (by kernel_rfl) (by kernel_rfl) (fun _ _ _ h => h) (Or.inl ⟨by rfl, ?_⟩) (by assumption) ?_
  rotate_left
  · intro w hSw
    (try dsimp only at hSw)
    go_simp
    try with_reducible rfl
  try simp only [Act.put, List.setIfInBounds_toArray, List.set_cons_zero, List.set_cons_succ]
  refine wpAnyH_take (i := 11) (oi := { dst := some 38, op := Op.nilCheck (Operand.tmp 37), type := 0, pos := "store.go:244", after := #[{ on := 10, ground := Ground.data }, { on := 8, ground := Ground.guard }], guard := some (8, true) }) (v := ?_) rfl (by kernel_rfl) (by kernel_rfl) (by kernel_rfl) (fun _ _ _ h => h) (Or.inl ⟨by rfl, ?_⟩) (by assumption) ?_
  rotate_left
  · intro w hSw
    (try dsimp only at hSw)
    go_simp
    try with_reducible rfl
  try simp only [Act.put, List.setIfInBounds_toArray, List.set_cons_zero, List.set_cons_succ]
  refine wpAnyH_take (i := 12) (oi := { dst := some 39, op := Op.fieldAddr 48 (Operand.tmp 38) 2, type := 0, pos := "store.go:244", after := #[{ on := 11, ground := Ground.data }, { on := 8, ground := Ground.guard }], guard := some (8, true) }) (v := ?_) rfl (by kernel_rfl) (by kernel_rfl) (by kernel_rfl) (fun _ _ _ h => h) (Or.inl ⟨by rfl, ?_⟩) (by assumption) ?_
  rotate_left
  · intro w hSw
    (try dsimp only at hSw)
    go_simp
    try with_reducible rfl
  try simp only [Act.put, List.setIfInBounds_toArray, List.set_cons_zero, List.set_cons_succ]
  refine wpAnyH_take (i := 13) (oi := { dst := some 40, op := Op.load 31 (Operand.tmp 39), type := 31, pos := "store.go:244", after := #[{ on := 12, ground := Ground.data }, { on := 8, ground := Ground.guard }], guard := some (8, true) }) (v := ?_) rfl (by kernel_rfl) (by kernel_rfl) (by kernel_rfl) (fun _ _ _ h => h) (Or.inl ⟨by rfl, ?_⟩) (by assumption) ?_
  rotate_left
  · intro w hSw
    (try dsimp only at hSw)
    go_simp
    try with_reducible rfl
  try simp only [Act.put, List.setIfInBounds_toArray, List.set_cons_zero, List.set_cons_succ]
  refine wpAnyH_ready (rs := [14]) (by kernel_rfl) (by simp) ?_
  refine AllReadyH.cons (o := { dst := some 41, op := Op.call { callee := Callee.value (Operand.func 15), args := #[Operand.tmp 36, Operand.tmp 40], argTypes := #[31, 31] }, type := 4, pos := "store.go:244", after := #[{ on := 9, ground := Ground.data }, { on := 13, ground := Ground.data }, { on := 8, ground := Ground.chain }, { on := 8, ground := Ground.guard }], guard := some (8, true) }) rfl (fun K hK => ?_) AllReadyH.nil
  go_simp
  refine (HSM.out 1).mono ?_; rintro e w' ⟨rfl, m, rfl⟩
  go_wp2_with fail
  refine hK.out _ _ ?_ (fun hHeld => ?_)
  · (try dsimp only)
    go_keep
  clear hK K
  try simp only [Act.put, List.setIfInBounds_toArray, List.set_cons_zero, List.set_cons_succ]
  refine wpAnyH_take (i := 15) (oi := { dst := some 42, op := Op.pick (Operand.tmp 35) (Operand.tmp 41) (Operand.const (Value.bool false)), type := 4, pos := "store.go:244", after := #[{ on := 8, ground := Ground.data }, { on := 14, ground := Ground.data }], guard := none }) (v := ?_) rfl (by kernel_rfl) (by kernel_rfl) (by kernel_rfl) (fun _ _ _ h => h) (Or.inl ⟨by rfl, ?_⟩) (by assumption) ?_
  rotate_left
  · intro w hSw
    (try dsimp only at hSw)
    go_simp
    try with_reducible rfl
  try simp only [Act.put, List.setIfInBounds_toArray, List.set_cons_zero, List.set_cons_succ]
  refine wpAnyH_take (i := 16) (oi := { dst := some 43, op := Op.move (Operand.tmp 42), type := 4, pos := "store.go:244", after := #[{ on := 15, ground := Ground.data }, { on := 14, ground := Ground.chain }], guard := none }) (v := ?_) rfl (by kernel_rfl) (by kernel_rfl) (by kernel_rfl) (fun _ _ _ h => h) (Or.inl ⟨by rfl, ?_⟩) (by assumption) ?_
  rotate_left
  · intro w hSw
    (try dsimp only at hSw)
    go_simp
    try with_reducible rfl
  try simp only [Act.put, List.setIfInBounds_toArray, List.set_cons_zero, List.set_cons_succ]
  refine wpAnyH_take (i := 17) (oi := { dst := some 44, op := Op.move (Operand.tmp 3), type := 4, pos := "store.go:244", after := #[{ on := 16, ground := Ground.guard }], guard := some (16, true) }) (v := ?_) rfl (by kernel_rfl) (by kernel_rfl) (by kernel_rfl) (fun _ _ _ h => h) (Or.inl ⟨by rfl, ?_⟩) (by assumption) ?_
  rotate_left
  · intro w hSw
    (try dsimp only at hSw)
    go_simp
    try with_reducible rfl
  try simp only [Act.put, List.setIfInBounds_toArray, List.set_cons_zero, List.set_cons_succ]
  refine wpAnyH_take (i := 18) (oi := { dst := some 45, op := Op.move (Operand.tmp 44), type := 4, pos := "store.go:244", after := #[{ on := 17, ground := Ground.data }, { on := 16, ground := Ground.chain }, { on := 16, ground := Ground.guard }], guard := some (16, true) }) (v := ?_) rfl (by kernel_rfl) (by kernel_rfl) (by kernel_rfl) (fun _ _ _ h => h) (Or.inl ⟨by rfl, ?_⟩) (by assumption) ?_
  rotate_left
  · intro w hSw
    (try dsimp only at hSw)
    go_simp
    try with_reducible rfl
  try simp only [Act.put, List.setIfInBounds_toArray, List.set_cons_zero, List.set_cons_succ]
  refine wpAnyH_take (i := 19) (oi := { dst := some 46, op := Op.move (Operand.tmp 11), type := 44, pos := "store.go:244", after := #[{ on := 18, ground := Ground.guard }], guard := some (18, false) }) (v := undef) rfl (by kernel_rfl) (by kernel_rfl) (by kernel_rfl) (fun _ _ _ h => h) (Or.inr ⟨by rfl, rfl⟩) (by assumption) ?_
  try simp only [Act.put, List.setIfInBounds_toArray, List.set_cons_zero, List.set_cons_succ]
  refine wpAnyH_take (i := 20) (oi := { dst := some 47, op := Op.nilCheck (Operand.tmp 46), type := 0, pos := "store.go:244", after := #[{ on := 19, ground := Ground.data }, { on := 18, ground := Ground.guard }], guard := some (18, false) }) (v := undef) rfl (by kernel_rfl) (by kernel_rfl) (by kernel_rfl) (fun _ _ _ h => h) (Or.inr ⟨by rfl, rfl⟩) (by assumption) ?_
  try simp only [Act.put, List.setIfInBounds_toArray, List.set_cons_zero, List.set_cons_succ]
  refine wpAnyH_take (i := 21) (oi := { dst := some 48, op := Op.fieldAddr 48 (Operand.tmp 47) 4, type := 0, pos := "store.go:244", after := #[{ on := 20, ground := Ground.data }, { on := 18, ground := Ground.guard }], guard := some (18, false) }) (v := undef) rfl (by kernel_rfl) (by kernel_rfl) (by kernel_rfl) (fun _ _ _ h => h) (Or.inr ⟨by rfl, rfl⟩) (by assumption) ?_
  try simp only [Act.put, List.setIfInBounds_toArray, List.set_cons_zero, List.set_cons_succ]
  refine wpAnyH_take (i := 22) (oi := { dst := some 49, op := Op.load 4 (Operand.tmp 48), type := 4, pos := "store.go:244", after := #[{ on := 21, ground := Ground.data }, { on := 18, ground := Ground.guard }], guard := some (18, false) }) (v := undef) rfl (by kernel_rfl) (by kernel_rfl) (by kernel_rfl) (fun _ _ _ h => h) (Or.inr ⟨by rfl, rfl⟩) (by assumption) ?_
  try simp only [Act.put, List.setIfInBounds_toArray, List.set_cons_zero, List.set_cons_succ]
  refine wpAnyH_take (i := 23) (oi := { dst := some 50, op := Op.unOp UnOp.not 4 (Operand.tmp 49), type := 4, pos := "store.go:244", after := #[{ on := 22, ground := Ground.data }, { on := 18, ground := Ground.guard }], guard := some (18, false) }) (v := undef) rfl (by kernel_rfl) (by kernel_rfl) (by kernel_rfl) (fun _ _ _ h => h) (Or.inr ⟨by rfl, rfl⟩) (by assumption) ?_
  try simp only [Act.put, List.setIfInBounds_toArray, List.set_cons_zero, List.set_cons_succ]
  refine wpAnyH_take (i := 24) (oi := { dst := some 51, op := Op.pick (Operand.tmp 45) (Operand.const (Value.bool true)) (Operand.tmp 50), type := 4, pos := "store.go:244", after := #[{ on := 18, ground := Ground.data }, { on := 23, ground := Ground.data }, { on := 16, ground := Ground.guard }], guard := some (16, true) }) (v := ?_) rfl (by kernel_rfl) (by kernel_rfl) (by kernel_rfl) (fun _ _ _ h => h) (Or.inl ⟨by rfl, ?_⟩) (by assumption) ?_
  rotate_left
  · intro w hSw
    (try dsimp only at hSw)
    go_simp
    try with_reducible rfl
  try simp only [Act.put, List.setIfInBounds_toArray, List.set_cons_zero, List.set_cons_succ]
  refine wpAnyH_take (i := 25) (oi := { dst := some 52, op := Op.pick (Operand.tmp 43) (Operand.tmp 51) (Operand.const (Value.bool false)), type := 4, pos := "store.go:244", after := #[{ on := 16, ground := Ground.data }, { on := 24, ground := Ground.data }], guard := none }) (v := ?_) rfl (by kernel_rfl) (by kernel_rfl) (by kernel_rfl) (fun _ _ _ h => h) (Or.inl ⟨by rfl, ?_⟩) (by assumption) ?_
  rotate_left
  · intro w hSw
    (try dsimp only at hSw)
    go_simp
    try with_reducible rfl
  try simp only [Act.put, List.setIfInBounds_toArray, List.set_cons_zero, List.set_cons_succ]
  refine wpAnyH_take (i := 26) (oi := { dst := some 53, op := Op.move (Operand.tmp 52), type := 4, pos := "store.go:244", after := #[{ on := 25, ground := Ground.data }, { on := 18, ground := Ground.chain }], guard := none }) (v := ?_) rfl (by kernel_rfl) (by kernel_rfl) (by kernel_rfl) (fun _ _ _ h => h) (Or.inl ⟨by rfl, ?_⟩) (by assumption) ?_
  rotate_left
  · intro w hSw
    (try dsimp only at hSw)
    go_simp
    try with_reducible rfl
  try simp only [Act.put, List.setIfInBounds_toArray, List.set_cons_zero, List.set_cons_succ]
  refine wpAnyH_take (i := 27) (oi := { dst := some 54, op := Op.load 40 (Operand.tmp 9), type := 40, pos := "store.go:244", after := #[{ on := 26, ground := Ground.guard }], guard := some (26, true) }) (v := ?_) rfl (by kernel_rfl) (by kernel_rfl) (by kernel_rfl) (fun _ _ _ h => h) (Or.inl ⟨by rfl, ?_⟩) (by assumption) ?_
  rotate_left
  · intro w hSw
    (try dsimp only at hSw)
    go_simp
    try with_reducible rfl
  try simp only [Act.put, List.setIfInBounds_toArray, List.set_cons_zero, List.set_cons_succ]
  refine wpAnyH_take (i := 28) (oi := { dst := some 55, op := Op.move (Operand.tmp 11), type := 44, pos := "store.go:244", after := #[{ on := 26, ground := Ground.guard }], guard := some (26, true) }) (v := ?_) rfl (by kernel_rfl) (by kernel_rfl) (by kernel_rfl) (fun _ _ _ h => h) (Or.inl ⟨by rfl, ?_⟩) (by assumption) ?_
  rotate_left
  · intro w hSw
    (try dsimp only at hSw)
    go_simp
    try with_reducible rfl
  try simp only [Act.put, List.setIfInBounds_toArray, List.set_cons_zero, List.set_cons_succ]
  refine wpAnyH_take (i := 29) (oi := { dst := some 56, op := Op.nilCheck (Operand.tmp 55), type := 0, pos := "store.go:244", after := #[{ on := 28, ground := Ground.data }, { on := 26, ground := Ground.guard }], guard := some (26, true) }) (v := ?_) rfl (by kernel_rfl) (by kernel_rfl) (by kernel_rfl) (fun _ _ _ h => h) (Or.inl ⟨by rfl, ?_⟩) (by assumption) ?_
  rotate_left
  · intro w hSw
    (try dsimp only at hSw)
    go_simp
    try with_reducible rfl
  try simp only [Act.put, List.setIfInBounds_toArray, List.set_cons_zero, List.set_cons_succ]
  refine wpAnyH_take (i := 30) (oi := { dst := some 57, op := Op.fieldAddr 48 (Operand.tmp 56) 3, type := 0, pos := "store.go:244", after := #[{ on := 29, ground := Ground.data }, { on := 26, ground := Ground.guard }], guard := some (26, true) }) (v := ?_) rfl (by kernel_rfl) (by kernel_rfl) (by kernel_rfl) (fun _ _ _ h => h) (Or.inl ⟨by rfl, ?_⟩) (by assumption) ?_
  rotate_left
  · intro w hSw
    (try dsimp only at hSw)
    go_simp
    try with_reducible rfl
  try simp only [Act.put, List.setIfInBounds_toArray, List.set_cons_zero, List.set_cons_succ]
  refine wpAnyH_take (i := 31) (oi := { dst := some 58, op := Op.load 40 (Operand.tmp 57), type := 40, pos := "store.go:244", after := #[{ on := 30, ground := Ground.data }, { on := 26, ground := Ground.guard }], guard := some (26, true) }) (v := ?_) rfl (by kernel_rfl) (by kernel_rfl) (by kernel_rfl) (fun _ _ _ h => h) (Or.inl ⟨by rfl, ?_⟩) (by assumption) ?_
  rotate_left
  · intro w hSw
    (try dsimp only at hSw)
    go_simp
    try with_reducible rfl
  try simp only [Act.put, List.setIfInBounds_toArray, List.set_cons_zero, List.set_cons_succ]
  refine wpAnyH_take (i := 32) (oi := { dst := some 59, op := Op.move (Operand.tmp 0), type := 49, pos := "store.go:244", after := #[{ on := 26, ground := Ground.guard }], guard := some (26, true) }) (v := ?_) rfl (by kernel_rfl) (by kernel_rfl) (by kernel_rfl) (fun _ _ _ h => h) (Or.inl ⟨by rfl, ?_⟩) (by assumption) ?_
  rotate_left
  · intro w hSw
    (try dsimp only at hSw)
    go_simp
    try with_reducible rfl
  try simp only [Act.put, List.setIfInBounds_toArray, List.set_cons_zero, List.set_cons_succ]
  refine wpAnyH_take (i := 33) (oi := { dst := some 60, op := Op.nilCheck (Operand.tmp 59), type := 0, pos := "store.go:244", after := #[{ on := 32, ground := Ground.data }, { on := 26, ground := Ground.guard }], guard := some (26, true) }) (v := ?_) rfl (by kernel_rfl) (by kernel_rfl) (by kernel_rfl) (fun _ _ _ h => h) (Or.inl ⟨by rfl, ?_⟩) (by assumption) ?_
  rotate_left
  · intro w hSw
    (try dsimp only at hSw)
    go_simp
    try with_reducible rfl
  try simp only [Act.put, List.setIfInBounds_toArray, List.set_cons_zero, List.set_cons_succ]
  refine wpAnyH_take (i := 34) (oi := { dst := some 61, op := Op.fieldAddr 55 (Operand.tmp 60) 5, type := 0, pos := "store.go:244", after := #[{ on := 33, ground := Ground.data }, { on := 26, ground := Ground.guard }], guard := some (26, true) }) (v := ?_) rfl (by kernel_rfl) (by kernel_rfl) (by kernel_rfl) (fun _ _ _ h => h) (Or.inl ⟨by rfl, ?_⟩) (by assumption) ?_
  rotate_left
  · intro w hSw
    (try dsimp only at hSw)
    go_simp
    try with_reducible rfl
  try simp only [Act.put, List.setIfInBounds_toArray, List.set_cons_zero, List.set_cons_succ]
  refine wpAnyH_take (i := 35) (oi := { dst := some 62, op := Op.load 42 (Operand.tmp 61), type := 42, pos := "store.go:244", after := #[{ on := 34, ground := Ground.data }, { on := 26, ground := Ground.guard }], guard := some (26, true) }) (v := ?_) rfl (by kernel_rfl) (by kernel_rfl) (by kernel_rfl) (fun _ _ _ h => h) (Or.inl ⟨by rfl, ?_⟩) (by assumption) ?_
  rotate_left
  · intro w hSw
    (try dsimp only at hSw)
    go_simp
    try with_reducible rfl
  try simp only [Act.put, List.setIfInBounds_toArray, List.set_cons_zero, List.set_cons_succ]
  refine wpAnyH_ready (rs := [36]) (by kernel_rfl) (by simp) ?_
  refine AllReadyH.cons (o := { dst := some 63, op := Op.call { callee := Callee.value (Operand.func 6), args := #[Operand.tmp 58, Operand.tmp 62], argTypes := #[40, 42] }, type := 40, pos := "store.go:245", after := #[{ on := 31, ground := Ground.data }, { on := 35, ground := Ground.data }, { on := 26, ground := Ground.chain }, { on := 26, ground := Ground.guard }], guard := some (26, true) }) rfl (fun K hK => ?_) AllReadyH.nil
  go_simp
  refine (add_any h l _ (by omega) (by omega) (by omega) (by omega)).mono ?_; rintro e w' ⟨rfl, C1, C2, rfl⟩
  go_wp2_with fail
  refine hK.out _ _ ?_ (fun hHeld => ?_)
  · (try dsimp only)
    go_keep
  clear hK K
  try simp only [Act.put, List.setIfInBounds_toArray, List.set_cons_zero, List.set_cons_succ]
  refine wpAnyH_ready (rs := [37]) (by kernel_rfl) (by simp) ?_
  refine AllReadyH.cons (o := { dst := some 64, op := Op.call { callee := Callee.value (Operand.func 16), args := #[Operand.tmp 54, Operand.tmp 63], argTypes := #[40, 40] }, type := 4, pos := "store.go:245", after := #[{ on := 27, ground := Ground.data }, { on := 36, ground := Ground.data }, { on := 36, ground := Ground.chain }, { on := 26, ground := Ground.guard }], guard := some (26, true) }) rfl (fun K hK => ?_) AllReadyH.nil
  go_simp
  refine (after_any a (h + l) _).mono ?_; rintro e w' ⟨rfl, D1, D2, rfl⟩
  go_wp2_with fail
  refine hK.out _ _ ?_ (fun hHeld => ?_)
  · (try dsimp only)
    go_keep
  clear hK K
  try simp only [Act.put, List.setIfInBounds_toArray, List.set_cons_zero, List.set_cons_succ]
  refine wpAnyH_take (i := 38) (oi := { dst := some 65, op := Op.unOp UnOp.not 4 (Operand.tmp 64), type := 4, pos := "store.go:244", after := #[{ on := 37, ground := Ground.data }, { on := 26, ground := Ground.guard }], guard := some (26, true) }) (v := ?_) rfl (by kernel_rfl) (by kernel_rfl) (by kernel_rfl) (fun _ _ _ h => h) (Or.inl ⟨by rfl, ?_⟩) (by assumption) ?_
  rotate_left
  · intro w hSw
    (try dsimp only at hSw)
    go_simp
    try with_reducible rfl
  try simp only [Act.put, List.setIfInBounds_toArray, List.set_cons_zero, List.set_cons_succ]
  refine wpAnyH_take (i := 39) (oi := { dst := some 66, op := Op.pick (Operand.tmp 53) (Operand.tmp 65) (Operand.const (Value.bool false)), type := 4, pos := "store.go:244", after := #[{ on := 26, ground := Ground.data }, { on := 38, ground := Ground.data }], guard := none }) (v := ?_) rfl (by kernel_rfl) (by kernel_rfl) (by kernel_rfl) (fun _ _ _ h => h) (Or.inl ⟨by rfl, ?_⟩) (by assumption) ?_
  rotate_left
  · intro w hSw
    (try dsimp only at hSw)
    go_simp
    try with_reducible rfl
  try simp only [Act.put, List.setIfInBounds_toArray, List.set_cons_zero, List.set_cons_succ]
  refine wpAnyH_take (i := 40) (oi := { dst := some 10, op := Op.assign (Operand.tmp 66), type := 4, pos := "store.go:244", after := #[{ on := 39, ground := Ground.data }, { on := 37, ground := Ground.chain }, { on := 0, ground := Ground.phase }, { on := 1, ground := Ground.phase }, { on := 2, ground := Ground.phase }, { on := 3, ground := Ground.phase }, { on := 4, ground := Ground.phase }, { on := 5, ground := Ground.phase }, { on := 6, ground := Ground.phase }, { on := 7, ground := Ground.phase }, { on := 8, ground := Ground.phase }, { on := 9, ground := Ground.phase }, { on := 10, ground := Ground.phase }, { on := 11, ground := Ground.phase }, { on := 12, ground := Ground.phase }, { on := 13, ground := Ground.phase }, { on := 14, ground := Ground.phase }, { on := 15, ground := Ground.phase }, { on := 16, ground := Ground.phase }, { on := 17, ground := Ground.phase }, { on := 18, ground := Ground.phase }, { on := 19, ground := Ground.phase }, { on := 20, ground := Ground.phase }, { on := 21, ground := Ground.phase }, { on := 22, ground := Ground.phase }, { on := 23, ground := Ground.phase }, { on := 24, ground := Ground.phase }, { on := 25, ground := Ground.phase }, { on := 26, ground := Ground.phase }, { on := 27, ground := Ground.phase }, { on := 28, ground := Ground.phase }, { on := 29, ground := Ground.phase }, { on := 30, ground := Ground.phase }, { on := 31, ground := Ground.phase }, { on := 32, ground := Ground.phase }, { on := 33, ground := Ground.phase }, { on := 34, ground := Ground.phase }, { on := 35, ground := Ground.phase }, { on := 36, ground := Ground.phase }, { on := 37, ground := Ground.phase }, { on := 38, ground := Ground.phase }, { on := 39, ground := Ground.phase }], guard := none }) (v := ?_) rfl (by kernel_rfl) (by kernel_rfl) (by kernel_rfl) (fun _ _ _ h => h) (Or.inl ⟨by rfl, ?_⟩) (by assumption) ?_
  rotate_left
  · intro w hSw
    (try dsimp only at hSw)
    go_simp
    try with_reducible rfl
  try simp only [Act.put, List.setIfInBounds_toArray, List.set_cons_zero, List.set_cons_succ]
  refine wpAnyH_done (by kernel_rfl) ?_ _
  go_wp2
  go_ret
  have hz1 : w.heap.size ≤ W1.heap.size := HB.out.size
  exact ⟨rfl, ((((below_drewN HB.out _).alloc (by simp [World.drewN]; omega) _).alloc (by simp [World.drewN]; omega) _).alloc (by simp [World.drewN]; omega) _).alloc (by simp [World.drewN]; omega) _⟩
end Go.Proofs.Ybulkdpjq
