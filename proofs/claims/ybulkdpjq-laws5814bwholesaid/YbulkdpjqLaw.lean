/-
  The law's call: the early return; the first record, and on.
-/
import Derived.Test.YbulkdpjqRows
import Derived.WalkKit
import Derived.ProofKit
import Derived.OpenShut
import Derived.WalkLawsBesides
import Derived.BigQuiet
import Derived.Laws.BitsAllLaws
import Derived.Laws.StructEq
import Derived.Outline
import Derived.Test.YbulkdpjqHeap
import Derived.Test.YbulkdpjqAids
import Derived.Test.YbulkdpjqState
import Derived.Test.YbulkdpjqFew
import Derived.Test.YbulkdpjqHanded
import Derived.Test.YbulkdpjqRec
import Derived.Deep.RegionWith
import Derived.Deep.RegionHeld3
import Derived.Deep.DeepCutAuto
import Derived.Deep.DrawnRows
import Derived.Test.YbulkdpjqMake
namespace Go.Proofs.Ybulkdpjq
open Go.ChangeShapes Go.WideShapes Go.ChangeAt Go.RowKit
open Go.ChangeMaps (setBlock)
set_option linter.unusedVariables false

set_option maxRecDepth 100000 in
set_option maxHeartbeats 1600000 in
/-- More than 2^20 bytes in all: true at once. -/
theorem law_big (i : Inp) (w : World) (h : (1048576 : Int) < (i.l9 : Int) + i.l10 + i.l11 + i.l12) (m9 : i.l9 ≤ 140737488355328) (m10 : i.l10 ≤ 140737488355328) (m11 : i.l11 ≤ 140737488355328) (m12 : i.l12 ≤ 140737488355328) :
    Calls Yba.prog 3 #[.agg i.cells] w fun e w' => e = .returned (.bool true) ∧ Below w.heap.size w w' := by
  go_enter Yba.func3, Yba.ntmps3
  go_upto_region 3 with fail
  go_ret
  exact ⟨rfl, (Below.refl _ _).alloc (Nat.le_refl _) _⟩

set_option maxRecDepth 100000 in
set_option maxHeartbeats 1600000 in
theorem law_small (i : Inp) (ok : Hid i.Ok) (w : World) (hsum : (i.l9 : Int) + i.l10 + i.l11 + i.l12 ≤ 1048576)
    (s9 : Hid (IsB w i.v9 i.xs9)) (s10 : Hid (IsB w i.v10 i.xs10)) (s11 : Hid (IsB w i.v11 i.xs11)) (s12 : Hid (IsB w i.v12 i.xs12)) :
    Calls Yba.prog 3 #[.agg i.cells] w fun e w' => e = .returned (.bool true) ∧ Below w.heap.size w w' := by
  have n17 := ok.out.n17
  have n18 := ok.out.n18
  have n19 := ok.out.n19
  have hl9 : i.l9 ≤ 1048576 := by omega
  have hl10 : i.l10 ≤ 1048576 := by omega
  have hl11 : i.l11 ≤ 1048576 := by omega
  have hl12 : i.l12 ≤ 1048576 := by omega
  go_enter Yba.func3, Yba.ntmps3
  go_upto_region 8 with (first | (go_at_call 4; refine (typ_any _ _ ok.out.a0.1 ok.out.a0.2).mono ?_; rintro e w' ⟨rfl, rfl⟩) | (refine wpList_store_all rfl 30 (.tmp 7) (.tmp 52) rfl (w.heap.size + 1) (idC i.a3) (idC 0) 30 rfl rfl (hp_alloc_at (by simp)) rfl info30 (one_id i.a3) ?_; intro W hk1 kp1))
  simp only [Act.put]
  have i0 : W.heap[w.heap.size]? = some (.cells i.cells 25) := by
    rw [kp1.block _ (by simp; omega) (by omega), hp_alloc_lt (by simp), hp_alloc_eq]
  have hb1 : Grew w W := Below.trans (((Below.refl _ _).alloc (Nat.le_refl _) _).alloc (by simp) _) (kp1.below (B := w.heap.size) (by simp; omega) (fun k hk => by omega))
  obtain ⟨ib, hib⟩ : ∃ ib, ib = w.heap.size := ⟨_, rfl⟩
  obtain ⟨kb, hkb⟩ : ∃ kb, kb = w.heap.size + 1 := ⟨_, rfl⟩
  rw [← hkb] at hk1
  rw [← hkb, ← hib]
  rw [← hib] at i0
  have B : Hid (Base i w ib kb W) := ⟨i0, hk1, hb1, hb1.isB s9.out, hb1.isB s10.out, hb1.isB s11.out, hb1.isB s12.out⟩
  clear kp1 hb1 hib hkb i0 hk1 s9 s10 s11 s12 n17 n18 n19
  have HS : Hid (∀ w', Grew W w' → (w'.cell? ⟨ib, 9, none⟩ = some (.slice i.p9 i.l9 i.c9) ∧ w'.cell? ⟨ib, 13, none⟩ = some (.int .u64 i.q13) ∧ w'.cell? ⟨ib, 10, none⟩ = some (.slice i.p10 i.l10 i.c10) ∧ Grew W w')) := by
    intro w' hg
    have hh := hg.blk B.out.box
    exact ⟨cell_at hh rfl, cell_at hh rfl, cell_at hh rfl, hg⟩
  refine wp_region_held_drew (S := fun w' => w'.cell? ⟨ib, 9, none⟩ = some (.slice i.p9 i.l9 i.c9) ∧ w'.cell? ⟨ib, 13, none⟩ = some (.int .u64 i.q13) ∧ w'.cell? ⟨ib, 10, none⟩ = some (.slice i.p10 i.l10 i.c10) ∧ Grew W w') (by kernel_rfl) ?_ (fun hHeld => ?_)
  · exact HS.out _ (Grew.drew (Grew.refl _))
  refine wpAnyH_take (i := 0) (oi := { dst := some 53, op := Op.move (Operand.tmp 6), type := 27, pos := "zz_law_s5814b.go:79", after := #[], guard := none }) (v := ?_) rfl (by kernel_rfl) (by kernel_rfl) (by kernel_rfl) (fun _ _ _ h => h) (Or.inl ⟨by rfl, ?_⟩) hHeld ?_
  rotate_left
  · intro w hSw
    (try dsimp only at hSw)
    go_simp
    try with_reducible rfl
  try simp only [Act.put, List.setIfInBounds_toArray, List.set_cons_zero, List.set_cons_succ]
  refine wpAnyH_take (i := 1) (oi := { dst := some 54, op := Op.fieldAddr 25 (Operand.tmp 1) 9, type := 0, pos := "zz_law_s5814b.go:79", after := #[], guard := none }) (v := ?_) rfl (by kernel_rfl) (by kernel_rfl) (by kernel_rfl) (fun _ _ _ h => h) (Or.inl ⟨by rfl, ?_⟩) hHeld ?_
  rotate_left
  · intro w hSw
    (try dsimp only at hSw)
    go_simp
    try with_reducible rfl
  try simp only [Act.put, List.setIfInBounds_toArray, List.set_cons_zero, List.set_cons_succ]
  refine wpAnyH_take (i := 2) (oi := { dst := some 55, op := Op.load 22 (Operand.tmp 54), type := 22, pos := "zz_law_s5814b.go:79", after := #[{ on := 1, ground := Ground.data }], guard := none }) (v := ?_) rfl (by kernel_rfl) (by kernel_rfl) (by kernel_rfl) (fun _ _ _ h => h) (Or.inl ⟨by rfl, ?_⟩) hHeld ?_
  rotate_left
  · intro w hSw
    (try dsimp only at hSw)
    go_simp
    try with_reducible rfl
  try simp only [Act.put, List.setIfInBounds_toArray, List.set_cons_zero, List.set_cons_succ]
  refine wpAnyH_take (i := 4) (oi := { dst := some 57, op := Op.fieldAddr 25 (Operand.tmp 1) 13, type := 0, pos := "zz_law_s5814b.go:79", after := #[], guard := none }) (v := ?_) rfl (by kernel_rfl) (by kernel_rfl) (by kernel_rfl) (fun _ _ _ h => h) (Or.inl ⟨by rfl, ?_⟩) hHeld ?_
  rotate_left
  · intro w hSw
    (try dsimp only at hSw)
    go_simp
    try with_reducible rfl
  try simp only [Act.put, List.setIfInBounds_toArray, List.set_cons_zero, List.set_cons_succ]
  refine wpAnyH_take (i := 5) (oi := { dst := some 58, op := Op.load 23 (Operand.tmp 57), type := 23, pos := "zz_law_s5814b.go:79", after := #[{ on := 4, ground := Ground.data }], guard := none }) (v := ?_) rfl (by kernel_rfl) (by kernel_rfl) (by kernel_rfl) (fun _ _ _ h => h) (Or.inl ⟨by rfl, ?_⟩) hHeld ?_
  rotate_left
  · intro w hSw
    (try dsimp only at hSw)
    go_simp
    try with_reducible rfl
  try simp only [Act.put, List.setIfInBounds_toArray, List.set_cons_zero, List.set_cons_succ]
  refine wpAnyH_take (i := 6) (oi := { dst := some 59, op := Op.fieldAddr 25 (Operand.tmp 1) 10, type := 0, pos := "zz_law_s5814b.go:79", after := #[], guard := none }) (v := ?_) rfl (by kernel_rfl) (by kernel_rfl) (by kernel_rfl) (fun _ _ _ h => h) (Or.inl ⟨by rfl, ?_⟩) hHeld ?_
  rotate_left
  · intro w hSw
    (try dsimp only at hSw)
    go_simp
    try with_reducible rfl
  try simp only [Act.put, List.setIfInBounds_toArray, List.set_cons_zero, List.set_cons_succ]
  refine wpAnyH_take (i := 7) (oi := { dst := some 60, op := Op.load 22 (Operand.tmp 59), type := 22, pos := "zz_law_s5814b.go:79", after := #[{ on := 6, ground := Ground.data }], guard := none }) (v := ?_) rfl (by kernel_rfl) (by kernel_rfl) (by kernel_rfl) (fun _ _ _ h => h) (Or.inl ⟨by rfl, ?_⟩) hHeld ?_
  rotate_left
  · intro w hSw
    (try dsimp only at hSw)
    go_simp
    try with_reducible rfl
  try simp only [Act.put, List.setIfInBounds_toArray, List.set_cons_zero, List.set_cons_succ]
  refine wpAnyH_ready (rs := [3]) (by kernel_rfl) (by simp) ?_
  refine AllReadyH.cons (o := { dst := some 56, op := Op.call { callee := Callee.value (Operand.func 5), args := #[Operand.tmp 55], argTypes := #[22] }, type := 22, pos := "zz_law_s5814b.go:79", after := #[{ on := 2, ground := Ground.data }], guard := none }) rfl (fun K hK => ?_) AllReadyH.nil
  go_simp
  refine (clone_any ok.out.m9 (hHeld.2.2.2.isB B.out.s9)).mono ?_
  rintro e w' ⟨u1, rfl, hn1, hI1, hB1⟩
  obtain ⟨ua1, ul1, uc1, rfl⟩ := hI1.form
  have hh1 := Grew.trans hHeld.2.2.2 hB1
  have HG1 : Hid (Grew _ _) := hB1
  have HI1 := hide hI1
  have HN1 := hide hn1
  clear hI1 hn1 hB1
  go_wp2_with fail
  refine hK.out _ _ ?_ (fun hHeld => ?_)
  · exact HS.out _ hh1
  clear hK K
  try simp only [Act.put, List.setIfInBounds_toArray, List.set_cons_zero, List.set_cons_succ]
  refine wpAnyH_ready (rs := [8]) (by kernel_rfl) (by simp) ?_
  refine AllReadyH.cons (o := { dst := some 61, op := Op.call { callee := Callee.value (Operand.func 5), args := #[Operand.tmp 60], argTypes := #[22] }, type := 22, pos := "zz_law_s5814b.go:79", after := #[{ on := 7, ground := Ground.data }, { on := 3, ground := Ground.chain }], guard := none }) rfl (fun K hK => ?_) AllReadyH.nil
  go_simp
  refine (clone_any ok.out.m10 (hHeld.2.2.2.isB B.out.s10)).mono ?_
  rintro e w' ⟨u2, rfl, hn2, hI2, hB2⟩
  obtain ⟨ua2, ul2, uc2, rfl⟩ := hI2.form
  have hh2 := Grew.trans hHeld.2.2.2 hB2
  have HG2 : Hid (Grew _ _) := hB2
  have HI2 := hide hI2
  have HN2 := hide hn2
  clear hI2 hn2 hB2
  go_wp2_with fail
  refine hK.out _ _ ?_ (fun hHeld => ?_)
  · exact HS.out _ hh2
  clear hK K
  try simp only [Act.put, List.setIfInBounds_toArray, List.set_cons_zero, List.set_cons_succ]
  refine wpAnyH_take (i := 9) (oi := { dst := some 62, op := Op.build 35 #[(0, Operand.tmp 53), (1, Operand.tmp 56), (4, Operand.tmp 58), (5, Operand.tmp 61)], type := 35, pos := "zz_law_s5814b.go:79", after := #[{ on := 0, ground := Ground.data }, { on := 3, ground := Ground.data }, { on := 5, ground := Ground.data }, { on := 8, ground := Ground.data }], guard := none }) (v := ?_) rfl (by kernel_rfl) (by kernel_rfl) (by kernel_rfl) (fun _ _ _ h => h) (Or.inl ⟨by rfl, ?_⟩) hHeld ?_
  rotate_left
  · intro w hSw
    (try dsimp only at hSw)
    go_simp
    try with_reducible rfl
  try simp only [Act.put, List.setIfInBounds_toArray, List.set_cons_zero, List.set_cons_succ]
  refine wpAnyH_ready (rs := [10]) (by kernel_rfl) (by simp) ?_
  refine AllReadyH.cons (o := { dst := some 63, op := Op.box 35 (Operand.tmp 62), type := 31, pos := "zz_law_s5814b.go:79", after := #[{ on := 9, ground := Ground.data }], guard := none }) rfl (fun K hK => ?_) AllReadyH.nil
  go_simp
  refine hK.out _ _ ?_ (fun hHeld => ?_)
  · exact HS.out _ (Grew.alloc hHeld.2.2.2 _)
  clear hK K
  try simp only [Act.put, List.setIfInBounds_toArray, List.set_cons_zero, List.set_cons_succ]
  refine wpAnyH_take (i := 11) (oi := { dst := some 8, op := Op.assign (Operand.tmp 63), type := 31, pos := "zz_law_s5814b.go:79", after := #[{ on := 10, ground := Ground.data }, { on := 8, ground := Ground.chain }, { on := 0, ground := Ground.phase }, { on := 1, ground := Ground.phase }, { on := 2, ground := Ground.phase }, { on := 3, ground := Ground.phase }, { on := 4, ground := Ground.phase }, { on := 5, ground := Ground.phase }, { on := 6, ground := Ground.phase }, { on := 7, ground := Ground.phase }, { on := 8, ground := Ground.phase }, { on := 9, ground := Ground.phase }, { on := 10, ground := Ground.phase }], guard := none }) (v := ?_) rfl (by kernel_rfl) (by kernel_rfl) (by kernel_rfl) (fun _ _ _ h => h) (Or.inl ⟨by rfl, ?_⟩) hHeld ?_
  rotate_left
  · intro w hSw
    (try dsimp only at hSw)
    go_simp
    try with_reducible rfl
  try simp only [Act.put, List.setIfInBounds_toArray, List.set_cons_zero, List.set_cons_succ]
  refine wpAnyH_done (by kernel_rfl) ?_ _
  go_upto_region 9 with fail
  apply stage8 (ok := ok) (B := hide (B.out.ext (hh2.alloc _))) (h8 := ⟨_, _, _, rfl, hp_alloc_eq _ _, HN1.out, HN2.out, (HG2.out.alloc _).isB HI1.out, ((Grew.refl _).alloc _).isB HI2.out⟩) (hQ := rfl) (hK := by assumption)
end Go.Proofs.Ybulkdpjq
