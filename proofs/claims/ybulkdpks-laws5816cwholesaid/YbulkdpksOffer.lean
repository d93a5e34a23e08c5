/-
  '(*crew).offer'.
-/
import Derived.Test.YbulkdpksRows
import Derived.WalkKit
import Derived.ProofKit
import Derived.OpenShut
import Derived.WalkLawsBesides
import Derived.BigQuiet
import Derived.Laws.BitsAllLaws
import Derived.Laws.StructEq
import Derived.Outline
import Derived.Test.YbulkdpksRing
import Derived.Deep.RegionWith
import Derived.Deep.RegionHeld3
import Derived.Deep.DeepCutAuto
import Derived.Deep.DrawnRows
namespace Go.Proofs.Ybulkdpks
open Go.ChangeShapes Go.WideShapes Go.ChangeAt Go.RowKit
open Go.ChangeMaps (setBlock)
set_option linter.unusedVariables false


theorem Pushed.pre {cb bb L h k : Nat} {f : Nat → Int} {t mu room aw done : Int} {slow : Bool} {pk : Value} {w w1 w2 : World} (hb : bb < w.heap.size) (h1 : Kept (fun x => x = cb) w w1) (hh : Pushed cb bb L h k f t mu room aw done slow pk w1 w2) : Pushed cb bb L h k f t mu room aw done slow pk w w2 := by
  obtain ⟨bb', L', h', g, r1, r2, r3, r4, r5⟩ := hh
  exact ⟨bb', L', h', g, r1, r2, (h1.mono (fun _ => Or.inl)).trans r3, r4.imp id (fun hh => Nat.le_trans h1.size hh), r5⟩

set_option maxRecDepth 100000 in
set_option maxHeartbeats 800000 in
/-- '(*crew).offer' refuses. -/
theorem offer_no (cb np c : Nat) (room aw k t h done : Int) (slow : Bool) (buf : Value) (pp : Option Addr) (w : World) (a0 : 0 ≤ aw) (a1 : aw ≤ 255) (hnp : np ≤ 255) (k0 : 0 ≤ k) (k1 : k ≤ 255) (hno : room ≤ 0 ∨ aw + np - k = 0)
    (hC : w.heap[cb]? = some (.cells (crewC 1 slow room aw done h k buf (.slice pp np c)) 62)) :
    Calls Yba.prog 33 #[.pointer (some ⟨cb, 0, none⟩), .agg #[.int .i64 t, .pointer none]] w fun e w' => e = .returned (.tuple #[.pointer none, .bool false]) ∧ ∃ q, w' = (w.alloc (.cells #[.int .i64 t, .pointer none] 32)).drewN q := by
  have hcb := lt_of_block hC
  go_enter Yba.func33, Yba.ntmps33
  go_upto_region 1 with fail
  obtain ⟨W1, hW1⟩ : ∃ W1, W1 = w.alloc (.cells #[.int .i64 t, .pointer none] 32) := ⟨_, rfl⟩
  rw [← hW1]
  have hC1 : W1.heap[cb]? = some (.cells (crewC 1 slow room aw done h k buf (.slice pp np c)) 62) := by rw [hW1]; exact (hp_alloc_lt hcb).trans hC
  have HW := hide hW1
  have c3 : W1.cell? ⟨cb, 3, none⟩ = some (.int .i64 room) := cell_at hC1 rfl
  have HF : Hid (Calls Yba.prog 27 #[.pointer (some ⟨cb, 0, none⟩)] W1 fun e w' => e = .returned (.int .i64 (aw + np - k)) ∧ ∃ q, w' = W1.drewN q) := free_any cb aw k pp np c W1 a0 a1 hnp k0 k1 (cell_at hC1 rfl) (cell_at hC1 rfl) (cell_at hC1 rfl)
  clear hW1 hC hC1
  by_cases hr : room ≤ 0
  · go_wp2_with fail
    go_ret2
    exact ⟨rfl, 0, HW.out⟩
  · have hf : (aw + np - k == 0) = true := by simp; omega
    clear hno
    go_wp2_with (go_at_call 27; refine HF.out.mono ?_; rintro e w' ⟨rfl, q, rfl⟩)
    go_ret2
    exact ⟨rfl, _, by rw [HW.out]⟩

set_option maxRecDepth 100000 in
set_option maxHeartbeats 800000 in
/-- '(*crew).offer' takes the job. T, wk: what 'rouse' does then. -/
theorem offer_yes (cb bb L h k np c : Nat) (f : Nat → Int) (t room aw done : Int) (slow : Bool) (pp : Option Addr) (T : World → World) (wk : Value) (w : World) (r0 : 0 < room) (r1 : room ≤ 9223372036854775807) (a0 : 0 ≤ aw) (a1 : aw ≤ 255) (hnp : np ≤ 255) (hk : k ≤ 255) (hno : aw + np - k ≠ 0) (r : Row L h k) (hne : cb ≠ bb)
    (hC : w.heap[cb]? = some (.cells (crewC 1 slow room aw done h k (.slice (some ⟨bb, 0, none⟩) L L) (.slice pp np c)) 62)) (hB : w.heap[bb]? = some (.cells (jobs f L).toArray 32))
    (HR : ∀ w2, Pushed cb bb L h k f t 1 (room - 1) aw done slow (.slice pp np c) w w2 → Calls Yba.prog 44 #[.pointer (some ⟨cb, 0, none⟩)] w2 fun e w' => e = .returned wk ∧ w' = T w2) :
    Calls Yba.prog 33 #[.pointer (some ⟨cb, 0, none⟩), .agg #[.int .i64 t, .pointer none]] w fun e w' => e = .returned (.tuple #[wk, .bool true]) ∧ ∃ w2, Pushed cb bb L h k f t 1 (room - 1) aw done slow (.slice pp np c) w w2 ∧ w' = T w2 := by
  have hcb := lt_of_block hC
  have hbb := lt_of_block hB
  have hw : IntKind.i64.wrap (room - 1) = room - 1 := by rw [IntKind.wrap_i64]; omega
  have HR' := hide HR
  clear HR
  go_enter Yba.func33, Yba.ntmps33
  go_upto_region 1 with fail
  obtain ⟨W1, hW1⟩ : ∃ W1, W1 = w.alloc (.cells #[.int .i64 t, .pointer none] 32) := ⟨_, rfl⟩
  obtain ⟨jb, hjb⟩ : ∃ jb, jb = w.heap.size := ⟨_, rfl⟩
  rw [← hW1, ← hjb]
  have hC1 : W1.heap[cb]? = some (.cells (crewC 1 slow room aw done h k (.slice (some ⟨bb, 0, none⟩) L L) (.slice pp np c)) 62) := by rw [hW1]; exact (hp_alloc_lt hcb).trans hC
  have hB1 : W1.heap[bb]? = some (.cells (jobs f L).toArray 32) := by rw [hW1]; exact (hp_alloc_lt hbb).trans hB
  have hJ1 : W1.heap[jb]? = some (.cells #[.int .i64 t, .pointer none] 32) := by rw [hW1, hjb]; exact hp_alloc_eq _ _
  have c3 : W1.cell? ⟨cb, 3, none⟩ = some (.int .i64 room) := cell_at hC1 rfl
  have z3 : W1.frozen? ⟨cb, 3, none⟩ = false := frozen_at hC1
  have n1 : jb ≠ cb := by omega
  have n2 : jb ≠ bb := by omega
  have HK : Hid (Kept (fun x => x = cb) w W1) := by rw [hW1]; exact (Kept.refl _ _).alloc _
  have HF : Hid (Calls Yba.prog 27 #[.pointer (some ⟨cb, 0, none⟩)] W1 fun e w' => e = .returned (.int .i64 (aw + np - k)) ∧ ∃ q, w' = W1.drewN q) := free_any cb aw k pp np c W1 a0 a1 hnp (by omega) (by omega) (cell_at hC1 rfl) (cell_at hC1 rfl) (cell_at hC1 rfl)
  have hr : ¬ room ≤ 0 := by omega
  have hf : (aw + np - k == 0) = false := by simp; omega
  have HC1 := hide hC1
  have HB1 := hide hB1
  have HJ1 := hide hJ1
  have HBB : Hid (bb < w.heap.size) := hbb
  have Hr := hide r
  clear hW1 hjb hC hC1 hB hB1 hJ1 hno r hcb hbb
  go_upto_region 4 with (go_at_call 27; refine HF.out.mono ?_; rintro e w' ⟨rfl, q, rfl⟩)
  obtain ⟨W2, hW2⟩ : ∃ W2, W2 = (W1.drewN q).setCell ⟨cb, 3, none⟩ (.int .i64 (room - 1)) := ⟨_, rfl⟩
  rw [← hW2]
  have hC2 : W2.heap[cb]? = some (.cells (crewC 1 slow (room - 1) aw done h k (.slice (some ⟨bb, 0, none⟩) L L) (.slice pp np c)) 62) := by
    rw [hW2, hp_setCell_eq (w := W1.drewN q) HC1.out]
    rfl
  have hB2 : W2.heap[bb]? = some (.cells (jobs f L).toArray 32) := by rw [hW2, hp_setCell_ne (by simp; omega)]; exact HB1.out
  have hJ2 : W2.heap[jb]? = some (.cells #[.int .i64 t, .pointer none] 32) := by rw [hW2, hp_setCell_ne (by simp; omega)]; exact HJ1.out
  have hK2 : Kept (fun x => x = cb) w W2 := by rw [hW2]; exact (HK.out.drewN q).setCell (Or.inl rfl) _
  have HP : Hid (∀ n, Calls Yba.prog 51 #[.pointer (some ⟨cb, 6, none⟩), .agg #[.int .i64 t, .pointer none]] (W2.drewN n) fun e w' => e = .returned (.tuple #[]) ∧ (Pushed cb bb L h k f t 1 (room - 1) aw done slow (.slice pp np c) w w' ∧ w'.heap[jb]? = some (.cells #[.int .i64 t, .pointer none] 32))) := by
    intro n
    refine (push_ring cb bb L h k f t 1 (room - 1) aw done slow (.slice pp np c) (W2.drewN n) hk Hr.out hne hC2 hB2).mono ?_
    rintro e w' ⟨he, hp⟩
    refine ⟨he, hp.pre HBB.out (hK2.drewN n), ?_⟩
    obtain ⟨_, _, _, _, _, _, hk', _⟩ := hp
    exact (hk'.block jb (lt_of_block (w := W2.drewN n) hJ2) (by omega)).trans hJ2
  have HJ : Hid (∀ w', (Pushed cb bb L h k f t 1 (room - 1) aw done slow (.slice pp np c) w w' ∧ w'.heap[jb]? = some (.cells #[.int .i64 t, .pointer none] 32)) → w'.cell? ⟨jb, 0, none⟩ = some (.int .i64 t) ∧ w'.cell? ⟨jb, 1, none⟩ = some (.pointer none)) := fun w' hh => ⟨cell_at hh.2 rfl, cell_at hh.2 rfl⟩
  have j0 : W2.drew.cell? ⟨jb, 0, none⟩ = some (.int .i64 t) := cell_at (w := W2.drew) hJ2 rfl
  have j1 : W2.drew.cell? ⟨jb, 1, none⟩ = some (.pointer none) := cell_at (w := W2.drew) hJ2 rfl
  clear hW2 hC2 hB2 hJ2 hK2 c3 z3
  refine wp_region_held_drew (S := fun w' => w'.cell? ⟨jb, 0, none⟩ = some (.int .i64 t) ∧ w'.cell? ⟨jb, 1, none⟩ = some (.pointer none)) (by kernel_rfl) ?_ (fun hHeld => ?_)
  · exact ⟨j0, j1⟩
  refine wpAnyH_take (i := 0) (oi := { dst := some 23, op := Op.move (Operand.tmp 0), type := 50, pos := "crew.go:92", after := #[], guard := none }) (v := ?_) rfl (by kernel_rfl) (by kernel_rfl) (by kernel_rfl) (fun _ _ _ h => h) (Or.inl ⟨by rfl, ?_⟩) hHeld ?_
  rotate_left
  · intro w hSw
    (try dsimp only at hSw)
    go_simp
    try with_reducible rfl
  try simp only [Act.put, List.setIfInBounds_toArray, List.set_cons_zero, List.set_cons_succ]
  refine wpAnyH_take (i := 1) (oi := { dst := some 24, op := Op.nilCheck (Operand.tmp 23), type := 0, pos := "crew.go:92", after := #[{ on := 0, ground := Ground.data }], guard := none }) (v := ?_) rfl (by kernel_rfl) (by kernel_rfl) (by kernel_rfl) (fun _ _ _ h => h) (Or.inl ⟨by rfl, ?_⟩) hHeld ?_
  rotate_left
  · intro w hSw
    (try dsimp only at hSw)
    go_simp
    try with_reducible rfl
  try simp only [Act.put, List.setIfInBounds_toArray, List.set_cons_zero, List.set_cons_succ]
  refine wpAnyH_take (i := 2) (oi := { dst := some 25, op := Op.fieldAddr 62 (Operand.tmp 24) 5, type := 0, pos := "crew.go:92", after := #[{ on := 1, ground := Ground.data }], guard := none }) (v := ?_) rfl (by kernel_rfl) (by kernel_rfl) (by kernel_rfl) (fun _ _ _ h => h) (Or.inl ⟨by rfl, ?_⟩) hHeld ?_
  rotate_left
  · intro w hSw
    (try dsimp only at hSw)
    go_simp
    try with_reducible rfl
  try simp only [Act.put, List.setIfInBounds_toArray, List.set_cons_zero, List.set_cons_succ]
  refine wpAnyH_take (i := 3) (oi := { dst := some 26, op := Op.load 32 (Operand.tmp 3), type := 32, pos := "crew.go:92", after := #[], guard := none }) (v := ?_) rfl (by kernel_rfl) (by kernel_rfl) (by kernel_rfl) (fun _ _ _ h => h) (Or.inl ⟨by rfl, ?_⟩) hHeld ?_
  rotate_left
  · intro w hSw
    (try dsimp only at hSw)
    go_simp
    try with_reducible rfl
  try simp only [Act.put, List.setIfInBounds_toArray, List.set_cons_zero, List.set_cons_succ]
  refine wpAnyH_ready (rs := [4]) (by kernel_rfl) (by simp) ?_
  refine AllReadyH.cons (o := { dst := some 27, op := Op.call { callee := Callee.value (Operand.func 51), args := #[Operand.tmp 25, Operand.tmp 26], argTypes := #[29, 32] }, type := 0, pos := "crew.go:92", after := #[{ on := 2, ground := Ground.data }, { on := 3, ground := Ground.data }], guard := none }) rfl (fun K hK => ?_) AllReadyH.nil
  go_simp
  refine (HP.out 1).mono ?_
  rintro e w2 ⟨rfl, hR⟩
  have HPW := hide hR
  clear hR
  go_simp
  refine hK.out _ _ ?_ (fun hHeld => ?_)
  · exact HJ.out _ HPW.out
  clear hK K
  try simp only [Act.put, List.setIfInBounds_toArray, List.set_cons_zero, List.set_cons_succ]
  refine wpAnyH_done (by kernel_rfl) ?_ _
  have HRW := hide (HR'.out w2 HPW.out.1)
  go_wp2_with (go_at_call 44; refine HRW.out.mono ?_; rintro e w' ⟨rfl, rfl⟩)
  go_ret2
  exact ⟨rfl, w2, HPW.out.1, rfl⟩
end Go.Proofs.Ybulkdpks
