/-
  '(*Pool).offer'.
-/
import Derived.Test.YbulkdpksRows
import Derived.WalkKit
import Derived.ProofKit
import Derived.OpenShut
import Derived.WalkLawsBesides
import Derived.BigQuiet
import Derived.Laws.BitsAllLaws
import Derived.Laws.StructEq
import Derived.Outline
import Derived.Test.YbulkdpksOffer
namespace Go.Proofs.Ybulkdpks
open Go.ChangeShapes Go.WideShapes Go.ChangeAt Go.RowKit
open Go.ChangeMaps (setBlock)
set_option linter.unusedVariables false

theorem crew_mu (cb : Nat) (mu m : Int) (slow : Bool) (room aw done h n : Int) (buf pk : Value) (w : World) (hC : w.heap[cb]? = some (.cells (crewC mu slow room aw done h n buf pk) 62)) :
    (w.setCell ⟨cb, 0, none⟩ (.int .i32 m)).heap[cb]? = some (.cells (crewC m slow room aw done h n buf pk) 62) := by
  rw [hp_setCell_eq hC]
  rfl

set_option maxRecDepth 100000 in
/-- '(*Pool).offer', slow. -/
theorem pool_slow (qb cb : Nat) (room aw done h k t : Int) (buf pk : Value) (w : World) (hne : qb ≠ cb) (hQ : w.cell? ⟨qb, 4, none⟩ = some (.pointer (some ⟨cb, 0, none⟩)))
    (hC : w.heap[cb]? = some (.cells (crewC 0 true room aw done h k buf pk) 62)) :
    Calls Yba.prog 8 #[.pointer (some ⟨qb, 0, none⟩), .int .i64 t] w fun e w' => e = .returned (.tuple #[.bool false, .bool false]) ∧ w'.heap[cb]? = some (.cells (crewC 0 true room aw done h k buf pk) 62) ∧ Kept (fun x => x = cb) w w' := by
  have hC1 := crew_mu cb 0 1 true room aw done h k buf pk w hC
  have HL : Hid (Calls Yba.prog 23 #[.pointer (some ⟨cb, 0, none⟩)] w fun e w' => e = .returned (.tuple #[]) ∧ w' = w.setCell ⟨cb, 0, none⟩ (.int .i32 1)) := lock_free cb 0 w (cell_at hC rfl) (frozen_at hC)
  obtain ⟨W1, hW1⟩ : ∃ W1, W1 = w.setCell ⟨cb, 0, none⟩ (.int .i32 1) := ⟨_, rfl⟩
  rw [← hW1] at HL hC1
  have HU : Hid (Calls Yba.prog 24 #[.pointer (some ⟨cb, 0, none⟩)] W1 fun e w' => e = .returned (.tuple #[]) ∧ w' = W1.setCell ⟨cb, 0, none⟩ (.int .i32 0)) := unlock_held cb 0 W1 (cell_at hC1 rfl) (frozen_at hC1)
  have c2 : W1.cell? ⟨cb, 2, none⟩ = some (.bool true) := cell_at hC1 rfl
  have HC1 := hide hC1
  have HW := hide hW1
  clear hW1 hC1 hC
  go_enter Yba.func8, Yba.ntmps8
  go_wp2_with first | (go_at_call 23; refine HL.out.mono ?_; rintro e w' ⟨rfl, rfl⟩) | (go_at_call 24; refine HU.out.mono ?_; rintro e w' ⟨rfl, rfl⟩)
  go_ret2
  refine ⟨rfl, crew_mu cb 1 0 true room aw done h k buf pk _ HC1.out, ?_⟩
  rw [HW.out]
  exact ((Kept.refl (fun x => x = cb) _).setCell (Or.inl rfl) _).setCell (Or.inl rfl) _

set_option maxRecDepth 100000 in
/-- '(*Pool).offer', refused by the crew. -/
theorem pool_no (qb cb np c : Nat) (room aw done h k t : Int) (buf : Value) (pp : Option Addr) (w : World) (hne : qb ≠ cb) (a0 : 0 ≤ aw) (a1 : aw ≤ 255) (hnp : np ≤ 255) (k0 : 0 ≤ k) (k1 : k ≤ 255) (hno : room ≤ 0 ∨ aw + np - k = 0) (hqb : qb < w.heap.size) (hQ : w.cell? ⟨qb, 4, none⟩ = some (.pointer (some ⟨cb, 0, none⟩)))
    (hC : w.heap[cb]? = some (.cells (crewC 0 false room aw done h k buf (.slice pp np c)) 62)) :
    Calls Yba.prog 8 #[.pointer (some ⟨qb, 0, none⟩), .int .i64 t] w fun e w' => e = .returned (.tuple #[.bool false, .bool (decide (0 < room) && decide (0 < k))]) ∧ w'.heap[cb]? = some (.cells (crewC 0 false room aw done h k buf (.slice pp np c)) 62) ∧ Kept (fun x => x = cb) w w' := by
  have hcb := lt_of_block hC
  have hC1 := crew_mu cb 0 1 false room aw done h k buf (.slice pp np c) w hC
  have HL : Hid (Calls Yba.prog 23 #[.pointer (some ⟨cb, 0, none⟩)] w fun e w' => e = .returned (.tuple #[]) ∧ w' = w.setCell ⟨cb, 0, none⟩ (.int .i32 1)) := lock_free cb 0 w (cell_at hC rfl) (frozen_at hC)
  obtain ⟨W1, hW1⟩ : ∃ W1, W1 = w.setCell ⟨cb, 0, none⟩ (.int .i32 1) := ⟨_, rfl⟩
  rw [← hW1] at HL hC1
  have hK1 : Kept (fun x => x = cb) w W1 := by rw [hW1]; exact (Kept.refl (fun x => x = cb) _).setCell (Or.inl rfl) _
  have hcb1 : cb < W1.heap.size := lt_of_block hC1
  have HO : Hid (Calls Yba.prog 33 #[.pointer (some ⟨cb, 0, none⟩), .agg #[.int .i64 t, .pointer none]] W1 fun e w' => e = .returned (.tuple #[.pointer none, .bool false]) ∧ (w'.heap[cb]? = some (.cells (crewC 1 false room aw done h k buf (.slice pp np c)) 62) ∧ Kept (fun x => x = cb) w w')) := by
    refine (offer_no cb np c room aw k t h done false buf pp W1 a0 a1 hnp k0 k1 hno hC1).mono ?_
    rintro e w' ⟨he, q, rfl⟩
    exact ⟨he, (hp_alloc_lt hcb1).trans hC1, (hK1.alloc _).drewN q⟩
  have c2 : W1.cell? ⟨cb, 2, none⟩ = some (.bool false) := cell_at hC1 rfl
  clear hW1 hC1 hC hK1
  go_enter Yba.func8, Yba.ntmps8
  go_upto_region 8 with first | (go_at_call 23; refine HL.out.mono ?_; rintro e w' ⟨rfl, rfl⟩) | (go_at_call 33; refine HO.out.mono ?_; rintro e W2 ⟨rfl, hC2, hK2⟩)
  have c3 : W2.cell? ⟨cb, 3, none⟩ = some (.int .i64 room) := cell_at hC2 rfl
  have HN : Hid (Calls Yba.prog 34 #[.pointer (some ⟨cb, 6, none⟩)] W2 fun e w' => e = .returned (.int .i64 k) ∧ w' = W2) := len_any cb 6 k W2 (cell_at hC2 rfl)
  have HU : Hid (Calls Yba.prog 24 #[.pointer (some ⟨cb, 0, none⟩)] W2 fun e w' => e = .returned (.tuple #[]) ∧ w' = W2.setCell ⟨cb, 0, none⟩ (.int .i32 0)) := unlock_held cb 0 W2 (cell_at hC2 rfl) (frozen_at hC2)
  have HC2 := hide hC2
  have HK2 := hide hK2
  have HX := fun (W : World) => hide (wake_nil W)
  clear hC2 hK2
  have hfin : (W2.setCell ⟨cb, 0, none⟩ (.int .i32 0)).heap[cb]? = some (.cells (crewC 0 false room aw done h k buf (.slice pp np c)) 62) ∧ Kept (fun x => x = cb) w (W2.setCell ⟨cb, 0, none⟩ (.int .i32 0)) :=
    ⟨crew_mu cb 1 0 false room aw done h k buf _ _ HC2.out, HK2.out.setCell (Or.inl rfl) _⟩
  have HF := hide hfin
  clear hfin
  by_cases hr : 0 < room
  · go_wp2_with first | (go_at_call 34; refine HN.out.mono ?_; rintro e w' ⟨rfl, rfl⟩) | (go_at_call 24; refine HU.out.mono ?_; rintro e w' ⟨rfl, rfl⟩) | (go_at_call 31; refine (HX _).out.mono ?_; rintro e w' ⟨rfl, rfl⟩)
    go_ret2
    exact ⟨by simp [hr], HF.out⟩
  · go_wp2_with first | (go_at_call 34; refine HN.out.mono ?_; rintro e w' ⟨rfl, rfl⟩) | (go_at_call 24; refine HU.out.mono ?_; rintro e w' ⟨rfl, rfl⟩) | (go_at_call 31; refine (HX _).out.mono ?_; rintro e w' ⟨rfl, rfl⟩)
    go_ret2
    exact ⟨by simp; omega, HF.out⟩

set_option maxRecDepth 100000 in
/-- '(*Pool).offer', taken. -/
theorem pool_yes (qb cb bb L h k np c : Nat) (f : Nat → Int) (t room aw done : Int) (pp : Option Addr) (T U : World → World) (wk : Value) (w : World) (hne : qb ≠ cb) (hqb : qb < w.heap.size) (hQ : w.cell? ⟨qb, 4, none⟩ = some (.pointer (some ⟨cb, 0, none⟩))) (r0 : 0 < room) (r1 : room ≤ 9223372036854775807) (a0 : 0 ≤ aw) (a1 : aw ≤ 255) (hnp : np ≤ 255) (hk : k ≤ 255) (hno : aw + np - k ≠ 0) (r : Row L h k) (hcbb : cb ≠ bb)
    (hC : w.heap[cb]? = some (.cells (crewC 0 false room aw done h k (.slice (some ⟨bb, 0, none⟩) L L) (.slice pp np c)) 62)) (hB : w.heap[bb]? = some (.cells (jobs f L).toArray 32))
    (HR : ∀ w2, Pushed cb bb L h k f t 1 (room - 1) aw done false (.slice pp np c) w w2 → (Calls Yba.prog 44 #[.pointer (some ⟨cb, 0, none⟩)] w2 fun e w' => e = .returned wk ∧ w' = T w2) ∧ (T w2).cell? ⟨cb, 0, none⟩ = some (.int .i32 1) ∧ (T w2).frozen? ⟨cb, 0, none⟩ = false ∧
      Calls Yba.prog 31 #[wk] ((T w2).setCell ⟨cb, 0, none⟩ (.int .i32 0)) fun e w' => e = .returned (.tuple #[]) ∧ w' = U w2) :
    Calls Yba.prog 8 #[.pointer (some ⟨qb, 0, none⟩), .int .i64 t] w fun e w' => e = .returned (.tuple #[.bool true, .bool false]) ∧ ∃ w2, Pushed cb bb L h k f t 1 (room - 1) aw done false (.slice pp np c) w w2 ∧ w' = U w2 := by
  have hcb := lt_of_block hC
  have hbb := lt_of_block hB
  have hC1 := crew_mu cb 0 1 false room aw done h k (.slice (some ⟨bb, 0, none⟩) L L) (.slice pp np c) w hC
  have HL : Hid (Calls Yba.prog 23 #[.pointer (some ⟨cb, 0, none⟩)] w fun e w' => e = .returned (.tuple #[]) ∧ w' = w.setCell ⟨cb, 0, none⟩ (.int .i32 1)) := lock_free cb 0 w (cell_at hC rfl) (frozen_at hC)
  obtain ⟨W1, hW1⟩ : ∃ W1, W1 = w.setCell ⟨cb, 0, none⟩ (.int .i32 1) := ⟨_, rfl⟩
  rw [← hW1] at HL hC1
  have hK1 : Kept (fun x => x = cb) w W1 := by rw [hW1]; exact (Kept.refl (fun x => x = cb) _).setCell (Or.inl rfl) _
  have hB1 : W1.heap[bb]? = some (.cells (jobs f L).toArray 32) := (hK1.block bb hbb (by omega)).trans hB
  have HO : Hid (Calls Yba.prog 33 #[.pointer (some ⟨cb, 0, none⟩), .agg #[.int .i64 t, .pointer none]] W1 fun e w' => e = .returned (.tuple #[wk, .bool true]) ∧ ∃ w2, Pushed cb bb L h k f t 1 (room - 1) aw done false (.slice pp np c) w w2 ∧ w' = T w2) := by
    refine (offer_yes cb bb L h k np c f t room aw done false pp T wk W1 r0 r1 a0 a1 hnp hk hno r hcbb hC1 hB1 (fun w2 h2 => (HR w2 (h2.pre hbb hK1)).1)).mono ?_
    rintro e w' ⟨he, w2, h2, rfl⟩
    exact ⟨he, w2, h2.pre hbb hK1, rfl⟩
  have c2 : W1.cell? ⟨cb, 2, none⟩ = some (.bool false) := cell_at hC1 rfl
  have HR' := hide HR
  clear hW1 hC1 hC hK1 hB1 HR hB r
  go_enter Yba.func8, Yba.ntmps8
  go_upto_region 8 with first | (go_at_call 23; refine HL.out.mono ?_; rintro e w' ⟨rfl, rfl⟩) | (go_at_call 33; refine HO.out.mono ?_; rintro e W2 ⟨rfl, w2, hP, rfl⟩)
  obtain ⟨_, x1, x2, x3⟩ := HR'.out w2 hP
  have HU : Hid (Calls Yba.prog 24 #[.pointer (some ⟨cb, 0, none⟩)] (T w2) fun e w' => e = .returned (.tuple #[]) ∧ w' = (T w2).setCell ⟨cb, 0, none⟩ (.int .i32 0)) := unlock_held cb 0 _ x1 x2
  have HX := hide x3
  have HP := hide hP
  clear hP x1 x2 x3
  go_wp2_with first | (go_at_call 24; refine HU.out.mono ?_; rintro e w' ⟨rfl, rfl⟩) | (go_at_call 31; refine HX.out.mono ?_; rintro e w' ⟨rfl, rfl⟩)
  go_ret2
  exact ⟨rfl, w2, HP.out, rfl⟩
end Go.Proofs.Ybulkdpks
