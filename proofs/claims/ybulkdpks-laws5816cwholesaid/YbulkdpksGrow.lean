/-
  '(*ring).grow' of a row that holds something.
-/
import Derived.Test.YbulkdpksRows
import Derived.WalkKit
import Derived.ProofKit
import Derived.OpenShut
import Derived.WalkLawsBesides
import Derived.BigQuiet
import Derived.Laws.BitsAllLaws
import Derived.Laws.StructEq
import Derived.Outline
import Derived.Test.YbulkdpksHeap
import Derived.Test.YbulkdpksSync
import Derived.Test.YbulkdpksPush
import Derived.Test.YbulkdpksJobs
import Derived.Test.YbulkdpksCrew
import Derived.Deep.RegionWith
import Derived.Deep.RegionHeld3
import Derived.Deep.DeepCutAuto
import Derived.Deep.DrawnRows
namespace Go.Proofs.Ybulkdpks
open Go.ChangeShapes Go.WideShapes Go.ChangeAt Go.RowKit
open Go.ChangeMaps (setBlock)
set_option linter.unusedVariables false

theorem info32 : (Yba.prog.info? 32).map (fun i => (i.zero, i.size, i.bytes)) = some (some (.agg #[.int .i64 0, .pointer none]), 2, 16) := by kernel_rfl
theorem size32 : (Yba.prog.info? 32).map (·.size) = some 2 := by kernel_rfl

theorem make_jobs (n : Nat) (hn : n ≤ 1024) (w : World) : (Instr.makeSlice 27 (.int .i64 (n : Int)) (.int .i64 (n : Int))).run Yba.prog w = .ok (.slice (some ⟨w.heap.size, 0, none⟩) n n) (w.alloc (.cells (jobs (fun _ => 0) n).toArray 32)) := by
  obtain ⟨i, hi, hz⟩ := Option.map_eq_some_iff.1 info32
  simp only [Prod.mk.injEq] at hz
  obtain ⟨h1, h2, h3⟩ := hz
  have h := run_make (P := Yba.prog) w 27 32 i _ Yba.underlying27 hi h1 .i64 .i64 n n (by omega) (Int.le_refl _) (by rw [h3]; omega) (by omega)
  rw [h, h2, Int.toNat_natCast, ← made_jobs]
  rfl

theorem max_jobs (L M : Nat) (hM : M = max (2 * L) 8) (ats : Array TypeId) (ty : TypeId) (w : World) : (Builtin.max_ ats ty #[.int .i64 (2 * (L : Int)), .int .i64 8]).run Yba.prog w = .ok (.int .i64 (M : Int)) w := by
  rcases Nat.lt_or_ge (2 * L) 8 with h | h
  · have e : (M : Int) = 8 := by omega
    have h1 : (2 * (L : Int)) < 8 := by omega
    simp [Builtin.max_, Builtin.max2, go_sem, h1, e]
  · have e : (M : Int) = 2 * (L : Int) := by omega
    have h1 : ¬ (2 * (L : Int)) < 8 := by omega
    simp [Builtin.max_, Builtin.max2, go_sem, h1, e]

set_option maxRecDepth 100000 in
set_option maxHeartbeats 800000 in
theorem grow_pos (cb bb L h M : Nat) (f : Nat → Int) (w : World) (hL : L ≤ 256) (hh : h < L) (hM : M = max (2 * L) 8) (hb : w.heap[bb]? = some (.cells (jobs f L).toArray 32))
    (c6 : w.cell? ⟨cb, 6, none⟩ = some (.int .i64 h)) (c8 : w.cell? ⟨cb, 8, none⟩ = some (.slice (some ⟨bb, 0, none⟩) L L)) (z6 : w.frozen? ⟨cb, 6, none⟩ = false) (z8 : w.frozen? ⟨cb, 8, none⟩ = false) (hcb : cb < w.heap.size) :
    Calls Yba.prog 63 #[.pointer (some ⟨cb, 6, none⟩)] w fun e w' => e = .returned (.tuple #[]) ∧
      ∃ q, w' = ((((w.alloc (.cells (jobs (fun _ => 0) M).toArray 32)).setRow w.heap.size (jobs (fun p => if p < L - h then f (p + h) else if p < L then f (p + h - L) else 0) M).toArray).setCell ⟨cb, 8, none⟩ (.slice (some ⟨w.heap.size, 0, none⟩) M M)).setCell ⟨cb, 6, none⟩ (.int .i64 0)).drewN q := by
  have hmk := make_jobs M (by omega) w
  have hmx := max_jobs L M hM
  have hM2 : 2 * L ≤ M := by omega
  have hbb := lt_of_block hb
  obtain ⟨W1, hW1⟩ : ∃ W1, W1 = w.alloc (.cells (jobs (fun _ => 0) M).toArray 32) := ⟨_, rfl⟩
  obtain ⟨nb, hnb⟩ : ∃ nb, nb = w.heap.size := ⟨_, rfl⟩
  have hB : Below w.heap.size w W1 := by rw [hW1]; exact (Below.refl _ _).alloc (Nat.le_refl _) _
  have hN : W1.heap[nb]? = some (.cells (jobs (fun _ => 0) M).toArray 32) := by rw [hW1, hnb]; exact hp_alloc_eq _ _
  have hO : W1.heap[bb]? = some (.cells (jobs f L).toArray 32) := (hB.block bb hbb).trans hb
  have c6' : W1.drew.cell? ⟨cb, 6, none⟩ = some (.int .i64 h) := (hB.cell (p := ⟨cb, 6, none⟩) hcb).trans c6
  have c8' : W1.drew.cell? ⟨cb, 8, none⟩ = some (.slice (some ⟨bb, 0, none⟩) L L) := (hB.cell (p := ⟨cb, 8, none⟩) hcb).trans c8
  obtain ⟨X1, hX1⟩ : ∃ X1, X1 = ((jobs (fun _ => 0) M).take 0 ++ (jobs f L).drop (h * 2) ++ (jobs (fun _ => 0) M).drop (0 + ((jobs f L).drop (h * 2)).length)).toArray := ⟨_, rfl⟩
  have hl1 : ((jobs f L).drop (h * 2)).length = (L - h) * 2 := by simp [jobs_length]; omega
  have hl2 : ((jobs f L).take (h * 2)).length = h * 2 := by simp [jobs_length]; omega
  have hcp1 : Hid (∀ ty, (Builtin.copy_ #[27, 27] ty #[.slice (some ⟨nb, 0, none⟩) M M, .slice (some ⟨bb, h * 2, none⟩) (L - h) (L - h)]).run Yba.prog W1.drew = .ok (goInt (L - h : Nat)) (W1.drew.setRow nb X1)) := by
    intro ty
    rw [hX1]
    refine run_copy_wide W1.drew 27 27 ty 32 nb 0 M M ⟨bb, h * 2, none⟩ (L - h) (L - h) (L - h) 2 (jobs (fun _ => 0) M).toArray 32 ((jobs f L).drop (h * 2)) Yba.underlying27 size32 hN (by simp [Nat.min_def]; omega) hl1 (fun j v hj => ?_) (by simp [hl1, jobs_length]; omega) (fun v hv => jobs_one f L v (List.mem_of_mem_drop hv))
    rw [List.getElem?_drop] at hj
    have hadd : (⟨bb, h * 2, none⟩ : Addr).add j = ⟨bb, h * 2 + j, none⟩ := by unfold Addr.add; split <;> simp_all
    rw [hadd]
    exact cell_at (w := W1.drew) hO (by simpa using hj)
  have hcn : cb ≠ nb := by omega
  have hbn : bb ≠ nb := by omega
  obtain ⟨W2, hW2⟩ : ∃ W2, W2 = W1.drew.setRow nb X1 := ⟨_, rfl⟩
  have k1 : ∀ k, k ≠ nb → W2.heap[k]? = W1.heap[k]? := fun k hk => by rw [hW2]; exact setRow_other W1.drew nb k X1 hk
  have hN2 : W2.heap[nb]? = some (.cells X1 32) := by rw [hW2]; exact setRow_heap W1.drew nb _ X1 32 (0, 0) hN
  have hO2 : W2.heap[bb]? = some (.cells (jobs f L).toArray 32) := (k1 bb hbn).trans hO
  have c6s : W2.cell? ⟨cb, 6, none⟩ = some (.int .i64 h) := (World.cell?_of_block (w := W1) (k1 cb hcn)).trans c6'
  have c8s : W2.cell? ⟨cb, 8, none⟩ = some (.slice (some ⟨bb, 0, none⟩) L L) := (World.cell?_of_block (w := W1) (k1 cb hcn)).trans c8'
  have hs1 : X1.size = M * 2 := by rw [hX1]; simp [jobs_length]; omega
  obtain ⟨X2, hX2⟩ : ∃ X2, X2 = (X1.toList.take ((L - h) * 2) ++ (jobs f L).take (h * 2) ++ X1.toList.drop ((L - h) * 2 + ((jobs f L).take (h * 2)).length)).toArray := ⟨_, rfl⟩
  have hcp2 : Hid (∀ ty, (Builtin.copy_ #[27, 27] ty #[.slice (some ⟨nb, (L - h) * 2, none⟩) (M - (L - h)) (M - (L - h)), .slice (some ⟨bb, 0, none⟩) h L]).run Yba.prog W2.drew = .ok (goInt (h : Nat)) (W2.drew.setRow nb X2)) := by
    intro ty
    rw [hX2]
    refine run_copy_wide W2.drew 27 27 ty 32 nb ((L - h) * 2) (M - (L - h)) (M - (L - h)) ⟨bb, 0, none⟩ h L h 2 X1 32 ((jobs f L).take (h * 2)) Yba.underlying27 size32 hN2 (by simp [Nat.min_def]; omega) hl2 (fun j v hj => ?_) (by rw [hl2, hs1]; omega) (fun v hv => jobs_one f L v (List.mem_of_mem_take hv))
    have hadd : (⟨bb, 0, none⟩ : Addr).add j = ⟨bb, j, none⟩ := by unfold Addr.add; split <;> simp_all
    rw [hadd]
    refine cell_at (w := W2.drew) hO2 ?_
    rw [List.getElem?_take] at hj
    split at hj
    · simpa using hj
    · cases hj
  obtain ⟨W3, hW3⟩ : ∃ W3, W3 = W2.drew.setRow nb X2 := ⟨_, rfl⟩
  have k2 : ∀ k, k ≠ nb → W3.heap[k]? = W2.heap[k]? := fun k hk => by rw [hW3]; exact setRow_other W2.drew nb k X2 hk
  have c6t : W3.cell? ⟨cb, 6, none⟩ = some (.int .i64 h) := (World.cell?_of_block (w := W2) (k2 cb hcn)).trans c6s
  have c8t : W3.cell? ⟨cb, 8, none⟩ = some (.slice (some ⟨bb, 0, none⟩) L L) := (World.cell?_of_block (w := W2) (k2 cb hcn)).trans c8s
  have z6' : W3.frozen? ⟨cb, 6, none⟩ = false := (World.frozen?_of_block (w := W2) (k2 cb hcn)).trans ((World.frozen?_of_block (w := W1) (k1 cb hcn)).trans ((hB.frozen (p := ⟨cb, 6, none⟩) hcb).trans z6))
  have z8' : W3.frozen? ⟨cb, 8, none⟩ = false := (World.frozen?_of_block (w := W2) (k2 cb hcn)).trans ((World.frozen?_of_block (w := W1) (k1 cb hcn)).trans ((hB.frozen (p := ⟨cb, 8, none⟩) hcb).trans z8))
  have eX : X2 = (jobs (fun p => if p < L - h then f (p + h) else if p < L then f (p + h - L) else 0) M).toArray := by
    rw [hX2, hX1, two_splices _ _ _ _ _ hl1 hl2, jobs_turn f L M h (by omega) (by omega)]
  have eW : W3 = (W1.setRow nb X2).drewN 2 := by
    rw [hW3, hW2, ← setRow_setRow W1 nb X1 X2]
    rfl
  have hne : ¬ L = h := by omega
  have hlm : L ≤ M + h := by omega
  have hnm : ¬ M = L - h := by omega
  have hi1 : (0 : Int) ≤ (h : Int) := by omega
  have hi2 : (h : Int) ≤ (L : Int) := by omega
  have HM := hide hM
  have HB := hide hB
  have HX := hide hX1
  have HN := hide hN
  have HO := hide hO
  have HH := hide hb
  have HE := hide eW
  have HX2 := hide eX
  have e2 := hide hW2
  have e3 := hide hW3
  clear hM hB hX1 hN hO hb eW hX2 eX hN2 hO2 k1 k2 hs1 hl1 hl2 hW2 hW3
  go_enter Yba.func63, Yba.ntmps63
  go_wp2_with fail
  rw [← hW1, ← hnb]
  have HW1 := hide hW1
  have HNB := hide hnb
  clear hW1 hnb hmk hmx
  refine wp_region_held_drew (S := fun w' => w'.cell? ⟨cb, 6, none⟩ = some (.int .i64 h) ∧ w'.cell? ⟨cb, 8, none⟩ = some (.slice (some ⟨bb, 0, none⟩) L L)) (by kernel_rfl) ?_ (fun hHeld => ?_)
  · exact ⟨c6', c8'⟩
  refine wpAnyH_take (i := 0) (oi := { dst := some 12, op := Op.move (Operand.tmp 2), type := 27, pos := "ring.go:54", after := #[], guard := none }) (v := ?_) rfl (by kernel_rfl) (by kernel_rfl) (by kernel_rfl) (fun _ _ _ h => h) (Or.inl ⟨by rfl, ?_⟩) hHeld ?_
  rotate_left
  · intro w hSw
    (try dsimp only at hSw)
    go_simp
    try with_reducible rfl
  try simp only [Act.put, List.setIfInBounds_toArray, List.set_cons_zero, List.set_cons_succ]
  refine wpAnyH_take (i := 1) (oi := { dst := some 13, op := Op.move (Operand.tmp 0), type := 96, pos := "ring.go:54", after := #[], guard := none }) (v := ?_) rfl (by kernel_rfl) (by kernel_rfl) (by kernel_rfl) (fun _ _ _ h => h) (Or.inl ⟨by rfl, ?_⟩) hHeld ?_
  rotate_left
  · intro w hSw
    (try dsimp only at hSw)
    go_simp
    try with_reducible rfl
  try simp only [Act.put, List.setIfInBounds_toArray, List.set_cons_zero, List.set_cons_succ]
  refine wpAnyH_take (i := 2) (oi := { dst := some 14, op := Op.nilCheck (Operand.tmp 13), type := 0, pos := "ring.go:54", after := #[{ on := 1, ground := Ground.data }], guard := none }) (v := ?_) rfl (by kernel_rfl) (by kernel_rfl) (by kernel_rfl) (fun _ _ _ h => h) (Or.inl ⟨by rfl, ?_⟩) hHeld ?_
  rotate_left
  · intro w hSw
    (try dsimp only at hSw)
    go_simp
    try with_reducible rfl
  try simp only [Act.put, List.setIfInBounds_toArray, List.set_cons_zero, List.set_cons_succ]
  refine wpAnyH_take (i := 3) (oi := { dst := some 15, op := Op.fieldAddr 29 (Operand.tmp 14) 2, type := 0, pos := "ring.go:54", after := #[{ on := 2, ground := Ground.data }], guard := none }) (v := ?_) rfl (by kernel_rfl) (by kernel_rfl) (by kernel_rfl) (fun _ _ _ h => h) (Or.inl ⟨by rfl, ?_⟩) hHeld ?_
  rotate_left
  · intro w hSw
    (try dsimp only at hSw)
    go_simp
    try with_reducible rfl
  try simp only [Act.put, List.setIfInBounds_toArray, List.set_cons_zero, List.set_cons_succ]
  refine wpAnyH_take (i := 4) (oi := { dst := some 16, op := Op.load 27 (Operand.tmp 15), type := 27, pos := "ring.go:54", after := #[{ on := 3, ground := Ground.data }], guard := none }) (v := ?_) rfl (by kernel_rfl) (by kernel_rfl) (by kernel_rfl) (fun _ _ _ h => h) (Or.inl ⟨by rfl, ?_⟩) hHeld ?_
  rotate_left
  · intro w hSw
    (try dsimp only at hSw)
    go_simp
    try with_reducible rfl
  try simp only [Act.put, List.setIfInBounds_toArray, List.set_cons_zero, List.set_cons_succ]
  refine wpAnyH_take (i := 5) (oi := { dst := some 17, op := Op.move (Operand.tmp 0), type := 96, pos := "ring.go:54", after := #[], guard := none }) (v := ?_) rfl (by kernel_rfl) (by kernel_rfl) (by kernel_rfl) (fun _ _ _ h => h) (Or.inl ⟨by rfl, ?_⟩) hHeld ?_
  rotate_left
  · intro w hSw
    (try dsimp only at hSw)
    go_simp
    try with_reducible rfl
  try simp only [Act.put, List.setIfInBounds_toArray, List.set_cons_zero, List.set_cons_succ]
  refine wpAnyH_take (i := 6) (oi := { dst := some 18, op := Op.nilCheck (Operand.tmp 17), type := 0, pos := "ring.go:54", after := #[{ on := 5, ground := Ground.data }], guard := none }) (v := ?_) rfl (by kernel_rfl) (by kernel_rfl) (by kernel_rfl) (fun _ _ _ h => h) (Or.inl ⟨by rfl, ?_⟩) hHeld ?_
  rotate_left
  · intro w hSw
    (try dsimp only at hSw)
    go_simp
    try with_reducible rfl
  try simp only [Act.put, List.setIfInBounds_toArray, List.set_cons_zero, List.set_cons_succ]
  refine wpAnyH_take (i := 7) (oi := { dst := some 19, op := Op.fieldAddr 29 (Operand.tmp 18) 0, type := 0, pos := "ring.go:54", after := #[{ on := 6, ground := Ground.data }], guard := none }) (v := ?_) rfl (by kernel_rfl) (by kernel_rfl) (by kernel_rfl) (fun _ _ _ h => h) (Or.inl ⟨by rfl, ?_⟩) hHeld ?_
  rotate_left
  · intro w hSw
    (try dsimp only at hSw)
    go_simp
    try with_reducible rfl
  try simp only [Act.put, List.setIfInBounds_toArray, List.set_cons_zero, List.set_cons_succ]
  refine wpAnyH_take (i := 8) (oi := { dst := some 20, op := Op.load 3 (Operand.tmp 19), type := 3, pos := "ring.go:54", after := #[{ on := 7, ground := Ground.data }], guard := none }) (v := ?_) rfl (by kernel_rfl) (by kernel_rfl) (by kernel_rfl) (fun _ _ _ h => h) (Or.inl ⟨by rfl, ?_⟩) hHeld ?_
  rotate_left
  · intro w hSw
    (try dsimp only at hSw)
    go_simp
    try with_reducible rfl
  try simp only [Act.put, List.setIfInBounds_toArray, List.set_cons_zero, List.set_cons_succ]
  refine wpAnyH_take (i := 9) (oi := { dst := some 21, op := Op.slice 27 (Operand.tmp 16) (some (Operand.tmp 20)) none none, type := 27, pos := "ring.go:54", after := #[{ on := 4, ground := Ground.data }, { on := 8, ground := Ground.data }], guard := none }) (v := ?_) rfl (by kernel_rfl) (by kernel_rfl) (by kernel_rfl) (fun _ _ _ h => h) (Or.inl ⟨by rfl, ?_⟩) hHeld ?_
  rotate_left
  · intro w hSw
    (try dsimp only at hSw)
    go_simp
    try with_reducible rfl
  try simp only [Act.put, List.setIfInBounds_toArray, List.set_cons_zero, List.set_cons_succ]
  refine wpAnyH_ready (rs := [10]) (by kernel_rfl) (by simp) ?_
  refine AllReadyH.cons (o := { dst := some 22, op := Op.call { callee := Callee.builtin Builtin.copy, args := #[Operand.tmp 12, Operand.tmp 21], argTypes := #[27, 27] }, type := 3, pos := "ring.go:54", after := #[{ on := 0, ground := Ground.data }, { on := 9, ground := Ground.data }], guard := none }) rfl (fun K hK => ?_) AllReadyH.nil
  have hcp := hcp1.out
  go_simp
  rw [← e2.out]
  refine hK.out _ _ ?_ (fun hHeld => ?_)
  · exact ⟨c6s, c8s⟩
  clear hK K
  try simp only [Act.put, List.setIfInBounds_toArray, List.set_cons_zero, List.set_cons_succ]
  refine wpAnyH_take (i := 11) (oi := { dst := some 3, op := Op.assign (Operand.tmp 22), type := 3, pos := "ring.go:54", after := #[{ on := 10, ground := Ground.data }, { on := 10, ground := Ground.chain }, { on := 0, ground := Ground.phase }, { on := 1, ground := Ground.phase }, { on := 2, ground := Ground.phase }, { on := 3, ground := Ground.phase }, { on := 4, ground := Ground.phase }, { on := 5, ground := Ground.phase }, { on := 6, ground := Ground.phase }, { on := 7, ground := Ground.phase }, { on := 8, ground := Ground.phase }, { on := 9, ground := Ground.phase }, { on := 10, ground := Ground.phase }], guard := none }) (v := ?_) rfl (by kernel_rfl) (by kernel_rfl) (by kernel_rfl) (fun _ _ _ h => h) (Or.inl ⟨by rfl, ?_⟩) hHeld ?_
  rotate_left
  · intro w hSw
    (try dsimp only at hSw)
    go_simp
    try with_reducible rfl
  try simp only [Act.put, List.setIfInBounds_toArray, List.set_cons_zero, List.set_cons_succ]
  refine wpAnyH_done (by kernel_rfl) ?_ _
  go_wp2_with fail
  refine wp_region_held_drew (S := fun w' => w'.cell? ⟨cb, 6, none⟩ = some (.int .i64 h) ∧ w'.cell? ⟨cb, 8, none⟩ = some (.slice (some ⟨bb, 0, none⟩) L L)) (by kernel_rfl) ?_ (fun hHeld => ?_)
  · exact ⟨c6s, c8s⟩
  refine wpAnyH_take (i := 0) (oi := { dst := some 23, op := Op.move (Operand.tmp 2), type := 27, pos := "ring.go:55", after := #[], guard := none }) (v := ?_) rfl (by kernel_rfl) (by kernel_rfl) (by kernel_rfl) (fun _ _ _ h => h) (Or.inl ⟨by rfl, ?_⟩) hHeld ?_
  rotate_left
  · intro w hSw
    (try dsimp only at hSw)
    go_simp
    try with_reducible rfl
  try simp only [Act.put, List.setIfInBounds_toArray, List.set_cons_zero, List.set_cons_succ]
  refine wpAnyH_take (i := 1) (oi := { dst := some 24, op := Op.move (Operand.tmp 3), type := 3, pos := "ring.go:55", after := #[], guard := none }) (v := ?_) rfl (by kernel_rfl) (by kernel_rfl) (by kernel_rfl) (fun _ _ _ h => h) (Or.inl ⟨by rfl, ?_⟩) hHeld ?_
  rotate_left
  · intro w hSw
    (try dsimp only at hSw)
    go_simp
    try with_reducible rfl
  try simp only [Act.put, List.setIfInBounds_toArray, List.set_cons_zero, List.set_cons_succ]
  refine wpAnyH_take (i := 2) (oi := { dst := some 25, op := Op.slice 27 (Operand.tmp 23) (some (Operand.tmp 24)) none none, type := 27, pos := "ring.go:55", after := #[{ on := 0, ground := Ground.data }, { on := 1, ground := Ground.data }], guard := none }) (v := ?_) rfl (by kernel_rfl) (by kernel_rfl) (by kernel_rfl) (fun _ _ _ h => h) (Or.inl ⟨by rfl, ?_⟩) hHeld ?_
  rotate_left
  · intro w hSw
    (try dsimp only at hSw)
    go_simp
    try with_reducible rfl
  try simp only [Act.put, List.setIfInBounds_toArray, List.set_cons_zero, List.set_cons_succ]
  refine wpAnyH_take (i := 3) (oi := { dst := some 26, op := Op.move (Operand.tmp 0), type := 96, pos := "ring.go:55", after := #[], guard := none }) (v := ?_) rfl (by kernel_rfl) (by kernel_rfl) (by kernel_rfl) (fun _ _ _ h => h) (Or.inl ⟨by rfl, ?_⟩) hHeld ?_
  rotate_left
  · intro w hSw
    (try dsimp only at hSw)
    go_simp
    try with_reducible rfl
  try simp only [Act.put, List.setIfInBounds_toArray, List.set_cons_zero, List.set_cons_succ]
  refine wpAnyH_take (i := 4) (oi := { dst := some 27, op := Op.nilCheck (Operand.tmp 26), type := 0, pos := "ring.go:55", after := #[{ on := 3, ground := Ground.data }], guard := none }) (v := ?_) rfl (by kernel_rfl) (by kernel_rfl) (by kernel_rfl) (fun _ _ _ h => h) (Or.inl ⟨by rfl, ?_⟩) hHeld ?_
  rotate_left
  · intro w hSw
    (try dsimp only at hSw)
    go_simp
    try with_reducible rfl
  try simp only [Act.put, List.setIfInBounds_toArray, List.set_cons_zero, List.set_cons_succ]
  refine wpAnyH_take (i := 5) (oi := { dst := some 28, op := Op.fieldAddr 29 (Operand.tmp 27) 2, type := 0, pos := "ring.go:55", after := #[{ on := 4, ground := Ground.data }], guard := none }) (v := ?_) rfl (by kernel_rfl) (by kernel_rfl) (by kernel_rfl) (fun _ _ _ h => h) (Or.inl ⟨by rfl, ?_⟩) hHeld ?_
  rotate_left
  · intro w hSw
    (try dsimp only at hSw)
    go_simp
    try with_reducible rfl
  try simp only [Act.put, List.setIfInBounds_toArray, List.set_cons_zero, List.set_cons_succ]
  refine wpAnyH_take (i := 6) (oi := { dst := some 29, op := Op.load 27 (Operand.tmp 28), type := 27, pos := "ring.go:55", after := #[{ on := 5, ground := Ground.data }], guard := none }) (v := ?_) rfl (by kernel_rfl) (by kernel_rfl) (by kernel_rfl) (fun _ _ _ h => h) (Or.inl ⟨by rfl, ?_⟩) hHeld ?_
  rotate_left
  · intro w hSw
    (try dsimp only at hSw)
    go_simp
    try with_reducible rfl
  try simp only [Act.put, List.setIfInBounds_toArray, List.set_cons_zero, List.set_cons_succ]
  refine wpAnyH_take (i := 7) (oi := { dst := some 30, op := Op.move (Operand.tmp 0), type := 96, pos := "ring.go:55", after := #[], guard := none }) (v := ?_) rfl (by kernel_rfl) (by kernel_rfl) (by kernel_rfl) (fun _ _ _ h => h) (Or.inl ⟨by rfl, ?_⟩) hHeld ?_
  rotate_left
  · intro w hSw
    (try dsimp only at hSw)
    go_simp
    try with_reducible rfl
  try simp only [Act.put, List.setIfInBounds_toArray, List.set_cons_zero, List.set_cons_succ]
  refine wpAnyH_take (i := 8) (oi := { dst := some 31, op := Op.nilCheck (Operand.tmp 30), type := 0, pos := "ring.go:55", after := #[{ on := 7, ground := Ground.data }], guard := none }) (v := ?_) rfl (by kernel_rfl) (by kernel_rfl) (by kernel_rfl) (fun _ _ _ h => h) (Or.inl ⟨by rfl, ?_⟩) hHeld ?_
  rotate_left
  · intro w hSw
    (try dsimp only at hSw)
    go_simp
    try with_reducible rfl
  try simp only [Act.put, List.setIfInBounds_toArray, List.set_cons_zero, List.set_cons_succ]
  refine wpAnyH_take (i := 9) (oi := { dst := some 32, op := Op.fieldAddr 29 (Operand.tmp 31) 0, type := 0, pos := "ring.go:55", after := #[{ on := 8, ground := Ground.data }], guard := none }) (v := ?_) rfl (by kernel_rfl) (by kernel_rfl) (by kernel_rfl) (fun _ _ _ h => h) (Or.inl ⟨by rfl, ?_⟩) hHeld ?_
  rotate_left
  · intro w hSw
    (try dsimp only at hSw)
    go_simp
    try with_reducible rfl
  try simp only [Act.put, List.setIfInBounds_toArray, List.set_cons_zero, List.set_cons_succ]
  refine wpAnyH_take (i := 10) (oi := { dst := some 33, op := Op.load 3 (Operand.tmp 32), type := 3, pos := "ring.go:55", after := #[{ on := 9, ground := Ground.data }], guard := none }) (v := ?_) rfl (by kernel_rfl) (by kernel_rfl) (by kernel_rfl) (fun _ _ _ h => h) (Or.inl ⟨by rfl, ?_⟩) hHeld ?_
  rotate_left
  · intro w hSw
    (try dsimp only at hSw)
    go_simp
    try with_reducible rfl
  try simp only [Act.put, List.setIfInBounds_toArray, List.set_cons_zero, List.set_cons_succ]
  refine wpAnyH_take (i := 11) (oi := { dst := some 34, op := Op.slice 27 (Operand.tmp 29) none (some (Operand.tmp 33)) none, type := 27, pos := "ring.go:55", after := #[{ on := 6, ground := Ground.data }, { on := 10, ground := Ground.data }], guard := none }) (v := ?_) rfl (by kernel_rfl) (by kernel_rfl) (by kernel_rfl) (fun _ _ _ h => h) (Or.inl ⟨by rfl, ?_⟩) hHeld ?_
  rotate_left
  · intro w hSw
    (try dsimp only at hSw)
    go_simp
    try with_reducible rfl
  try simp only [Act.put, List.setIfInBounds_toArray, List.set_cons_zero, List.set_cons_succ]
  refine wpAnyH_ready (rs := [12]) (by kernel_rfl) (by simp) ?_
  refine AllReadyH.cons (o := { dst := some 35, op := Op.call { callee := Callee.builtin Builtin.copy, args := #[Operand.tmp 25, Operand.tmp 34], argTypes := #[27, 27] }, type := 3, pos := "ring.go:55", after := #[{ on := 2, ground := Ground.data }, { on := 11, ground := Ground.data }], guard := none }) rfl (fun K hK => ?_) AllReadyH.nil
  have hcp := hcp2.out
  go_simp
  rw [← e3.out]
  refine hK.out _ _ ?_ (fun hHeld => ?_)
  · exact ⟨c6t, c8t⟩
  clear hK K
  try simp only [Act.put, List.setIfInBounds_toArray, List.set_cons_zero, List.set_cons_succ]
  refine wpAnyH_done (by kernel_rfl) ?_ _
  go_wp2_with fail
  go_end0
  refine ⟨rfl, 2, ?_⟩
  rw [HE.out, ← HX2.out, HW1.out, HNB.out]
  rfl
end Go.Proofs.Ybulkdpks
