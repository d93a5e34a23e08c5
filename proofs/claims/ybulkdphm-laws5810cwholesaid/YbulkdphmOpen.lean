/-
  (*Receiver).open by its contracts: no deadline; a deadline and a listener; a deadline and no listener.
-/
import Derived.Test.YbulkdphmRows
import Derived.WalkKit
import Derived.ProofKit
import Derived.OpenShut
import Derived.WalkLawsBesides
import Derived.BigQuiet
import Derived.Deep.RegionWith
import Derived.Test.YbulkdphmSock
namespace Go.Proofs.Ybulkdphm
open Go.ChangeShapes Go.WideShapes Go.ChangeAt Go.RowKit
open Go.ChangeMaps (setBlock)
set_option linter.unusedVariables false

set_option maxRecDepth 100000 in
set_option maxHeartbeats 400000 in
theorem open_free (rb mb sb c k : Nat) (n : Int) (ln : Bool) (S : Array Value) (es : Array MapEntry) (w : World) (hr : w.heap[rb]? = some (.cells (RC n c mb 0 0 0 0) 61)) (hm : w.heap[mb]? = some (.map es k))
    (hs : w.heap[sb]? = some (.cells S 39)) (hes : ∀ e ∈ es.toList, ∃ c, e.key = SK c ∧ sb ≠ c ∧ IsSock w c) :
    Calls Yba.prog 11 #[.pointer (some ⟨rb, 0, none⟩), SK sb, .bool ln] w fun e w' => e = .returned (.bool true) ∧ Kept (fun b => b = rb ∨ b = mb) w w' ∧
      w'.heap[rb]? = some (.cells (RC n c mb 4294967296 0 0 0) 61) ∧ w'.heap[mb]? = some (.map (es.push { key := SK sb, val := .bool true, born := k }) (k + 1)) := by
  have c5 : w.cell? ⟨rb, 5, none⟩ = some (.int .i32 0) := cell_at hr rfl
  have c7 : w.cell? ⟨rb, 7, none⟩ = some (.map (some mb)) := cell_at hr rfl
  have c8 : w.cell? ⟨rb, 8, none⟩ = some (.int .u64 0) := cell_at hr rfl
  have c9 : w.cell? ⟨rb, 9, none⟩ = some (.int .i64 0) := cell_at hr rfl
  have c10 : w.cell? ⟨rb, 10, none⟩ = some (.pointer none) := cell_at hr rfl
  have z5 : w.frozen? ⟨rb, 5, none⟩ = false := frozen_at hr
  have hb := lt_of_block hr
  have HR := hide hr
  have HM := hide hm
  have HS := hide hs
  have HE := hide hes
  clear hr hm hs hes
  go_enter_defers Yba.func11, Yba.ntmps11
  go_wp2_with fail
  refine (lock_free ⟨rb, 5, none⟩ _ c5 z5).mono ?_
  rintro e w1 ⟨rfl, rfl⟩
  go_wp2_with fail
  refine (isZero_any 0 0 _).mono ?_
  rintro e w1 ⟨rfl, C1, rfl⟩
  obtain ⟨W2, hW2⟩ : ∃ W2, W2 = (w.setCell ⟨rb, 5, none⟩ (.int .i32 1)).alloc (.cells C1 59) := ⟨_, rfl⟩
  have hr2 : W2.heap[rb]? = some (.cells (RC n c mb 0 1 0 0) 61) := by
    rw [hW2, hp_alloc_lt (by simpa using hb), hp_setCell_eq HR.out]; rfl
  have hm2 : W2.heap[mb]? = some (.map es k) := by
    rw [hW2, hp_alloc_lt (by simpa using lt_of_block HM.out), hp_setCell_ne (Ne.symm (cell_ne_map HR.out HM.out))]; exact HM.out
  have hs2 : IsSock W2 sb := by rw [hW2]; exact (IsSock.setCell ⟨S, HS.out⟩ _ _).alloc _
  have he2 : ∀ e ∈ es.toList, ∃ c, e.key = SK c ∧ sb ≠ c ∧ IsSock W2 c := fun e he => by
    obtain ⟨c, h1, h2, h3⟩ := HE.out e he
    exact ⟨c, h1, h2, by rw [hW2]; exact (h3.setCell _ _).alloc _⟩
  have hk2 : Kept (fun b => b = rb ∨ b = mb) w W2 := by rw [hW2]; exact ((Kept.refl _ w).setCell (p := ⟨rb, 5, none⟩) (.inl (.inl rfl)) _).alloc _
  rw [← hW2]
  clear hW2
  have hput := run_put_new hm2 hs2 he2 (.bool true)
  have hne := cell_ne_map hr2 hm2
  have c7' : W2.cell? ⟨rb, 7, none⟩ = some (.map (some mb)) := cell_at hr2 rfl
  have HR2 := hide hr2
  have HM2 := hide hm2
  have HK2 := hide hk2
  clear hr2 hm2 hs2 he2 hk2 HR HM HS HE c5 c7 c8 c9 c10 z5
  go_wp2_with fail
  obtain ⟨W3, hW3⟩ : ∃ W3, W3 = setBlock W2 mb (.map (es.push { key := SK sb, val := .bool true, born := k }) (k + 1)) := ⟨_, rfl⟩
  have hr3 : W3.heap[rb]? = some (.cells (RC n c mb 0 1 0 0) 61) := by rw [hW3, hp_setBlock_ne hne]; exact HR2.out
  have hm3 : W3.heap[mb]? = some (.map (es.push { key := SK sb, val := .bool true, born := k }) (k + 1)) := by rw [hW3]; exact hp_setBlock_eq (lt_of_block HM2.out)
  have hk3 : Kept (fun b => b = rb ∨ b = mb) w W3 := by rw [hW3]; exact HK2.out.setBlock (.inl (.inr rfl)) _
  rw [← hW3]
  clear hW3 hput
  refine (wg_add1 rb 3 (.int .u32 0) _ (cell_at hr3 rfl) (frozen_at hr3) (cell_at hr3 rfl)).mono ?_
  rintro e w1 ⟨rfl, rfl⟩
  have hr4 := hp_setCell_eq (off := 3) (v := .int .u64 4294967296) hr3
  have hm4 := (hp_setCell_ne (a := ⟨rb, 3, none⟩) (v := .int .u64 4294967296) (Ne.symm hne)).trans hm3
  have hk4 := hk3.setCell (p := ⟨rb, 3, none⟩) (.inl (.inl rfl)) (.int .u64 4294967296)
  have HR4 := hide hr4
  have HM4 := hide hm4
  have HK4 := hide hk4
  clear hr4 hm4 hk4 hr3 hm3 hk3 HR2 HM2 HK2
  go_wp2_with fail
  refine leaves_cons (f := 13) (args := #[.pointer (some ⟨rb, 5, none⟩)]) (by simp) (by simp [go_sem]) ?_
  refine (unlock_deferred ⟨rb, 5, none⟩ .returning _ (cell_at HR4.out rfl) (frozen_at HR4.out)).mono ?_
  rintro e u' w'' ⟨rfl, rfl, rfl⟩
  exact ⟨_, results_tmp rfl _ _ _, rfl, HK4.out.setCell (p := ⟨rb, 5, none⟩) (.inl (.inl rfl)) _, hp_setCell_eq HR4.out, (hp_setCell_ne (a := ⟨rb, 5, none⟩) (Ne.symm hne)).trans HM4.out⟩

set_option maxRecDepth 100000 in
set_option maxHeartbeats 400000 in
theorem open_stopped (rb mb sb c : Nat) (n x y : Int) (hxy : (x == 0 && y == 0) = false) (w : World) (hr : w.heap[rb]? = some (.cells (RC n c mb 0 0 x y) 61)) :
    Calls Yba.prog 11 #[.pointer (some ⟨rb, 0, none⟩), SK sb, .bool true] w fun e w' => e = .returned (.bool false) ∧ Kept (fun b => b = rb) w w' ∧
      w'.heap[rb]? = some (.cells (RC n c mb 0 0 x y) 61) := by
  have c5 : w.cell? ⟨rb, 5, none⟩ = some (.int .i32 0) := cell_at hr rfl
  have c8 : w.cell? ⟨rb, 8, none⟩ = some (.int .u64 x) := cell_at hr rfl
  have c9 : w.cell? ⟨rb, 9, none⟩ = some (.int .i64 y) := cell_at hr rfl
  have c10 : w.cell? ⟨rb, 10, none⟩ = some (.pointer none) := cell_at hr rfl
  have z5 : w.frozen? ⟨rb, 5, none⟩ = false := frozen_at hr
  have hb := lt_of_block hr
  have HR := hide hr
  clear hr
  have HX := hide hxy
  clear hxy
  go_enter_defers Yba.func11, Yba.ntmps11
  go_wp2_with fail
  refine (lock_free ⟨rb, 5, none⟩ _ c5 z5).mono ?_
  rintro e w1 ⟨rfl, rfl⟩
  go_wp2_with fail
  refine (isZero_any x y _).mono ?_
  rintro e w1 ⟨rfl, C1, rfl⟩
  rw [HX.out]
  have hr4 : ((w.setCell ⟨rb, 5, none⟩ (.int .i32 1)).alloc (.cells C1 59)).heap[rb]? = some (.cells (RC n c mb 0 1 x y) 61) := by
    rw [hp_alloc_lt (by simpa using hb), hp_setCell_eq HR.out]; rfl
  have HR4 := hide hr4
  clear hr4
  go_wp2_with fail
  refine leaves_cons (f := 13) (args := #[.pointer (some ⟨rb, 5, none⟩)]) (by simp) (by simp [go_sem]) ?_
  refine (unlock_deferred ⟨rb, 5, none⟩ .returning _ (cell_at HR4.out rfl) (frozen_at HR4.out)).mono ?_
  rintro e u' w'' ⟨rfl, rfl, rfl⟩
  exact ⟨_, results_tmp rfl _ _ _, rfl, (((Kept.refl (fun b => b = rb) w).setCell (p := ⟨rb, 5, none⟩) (.inl rfl) _).alloc _).setCell (p := ⟨rb, 5, none⟩) (.inl rfl) _, hp_setCell_eq HR4.out⟩

theorem method_sd (a : Addr) (w : World) : (method 263 36 (.pointer (some a)) "SetDeadline").run Yba.prog w = .ok (76, .pointer (some a)) w := by kernel_rfl

theorem setDeadline_any (b : Nat) (x y : Int) (fail : Bool) (w : World) (h : w.heap[b]? = some (.cells #[.slice none 0 0, .int .i64 0, .bool fail] 39)) :
    Calls Yba.prog 76 #[.pointer (some ⟨b, 0, none⟩), .agg #[.int .u64 x, .int .i64 y, .pointer none]] w fun e w' => (∃ v, e = .returned v) ∧ Logged b x y fail w w' := by
  cases fail
  · exact setDeadline_no b x y w h
  · exact setDeadline_yes b x y w h

set_option maxRecDepth 100000 in
set_option maxHeartbeats 400000 in
theorem open_conn (rb mb sb c k : Nat) (n x y : Int) (fail : Bool) (hxy : (x == 0 && y == 0) = false) (es : Array MapEntry) (w : World) (hr : w.heap[rb]? = some (.cells (RC n c mb 0 0 x y) 61)) (hm : w.heap[mb]? = some (.map es k))
    (hs : w.heap[sb]? = some (.cells #[.slice none 0 0, .int .i64 0, .bool fail] 39)) (hes : ∀ e ∈ es.toList, ∃ c, e.key = SK c ∧ sb ≠ c ∧ IsSock w c) :
    Calls Yba.prog 11 #[.pointer (some ⟨rb, 0, none⟩), SK sb, .bool false] w fun e w' => e = .returned (.bool true) ∧ Kept (fun b => b = rb ∨ b = mb ∨ b = sb) w w' ∧
      w'.heap[rb]? = some (.cells (RC n c mb 4294967296 0 x y) 61) ∧ w'.heap[mb]? = some (.map (es.push { key := SK sb, val := .bool true, born := k }) (k + 1)) ∧
      ∃ g cap Z, w.heap.size ≤ g ∧ w'.heap[sb]? = some (.cells #[.slice (some ⟨g, 0, none⟩) 1 cap, .int .i64 0, .bool fail] 39) ∧ w'.heap[g]? = some (.cells (#[.int .u64 x, .int .i64 y, .pointer none] ++ Z) 59) := by
  have c5 : w.cell? ⟨rb, 5, none⟩ = some (.int .i32 0) := cell_at hr rfl
  have c8 : w.cell? ⟨rb, 8, none⟩ = some (.int .u64 x) := cell_at hr rfl
  have c9 : w.cell? ⟨rb, 9, none⟩ = some (.int .i64 y) := cell_at hr rfl
  have c10 : w.cell? ⟨rb, 10, none⟩ = some (.pointer none) := cell_at hr rfl
  have z5 : w.frozen? ⟨rb, 5, none⟩ = false := frozen_at hr
  have hb := lt_of_block hr
  have HR := hide hr
  have HM := hide hm
  have HS := hide hs
  have HE := hide hes
  have HX := hide hxy
  clear hr hm hs hes hxy
  refine calls_of_wp_door Yba.func11 rfl ?_
  simp only [Yba.ntmps11, List.size_toArray, List.length_cons, List.length_nil, Nat.reduceAdd, Nat.reduceSub, Array.replicate_succ,
     Array.replicate_zero, List.push_toArray, List.append_toArray, List.nil_append, List.cons_append]
  go_wp2_with fail
  refine (lock_free ⟨rb, 5, none⟩ _ c5 z5).mono ?_
  rintro e w1 ⟨rfl, rfl⟩
  go_wp2_with fail
  refine (isZero_any x y _).mono ?_
  rintro e w1 ⟨rfl, C1, rfl⟩
  rw [HX.out]
  obtain ⟨W2, hW2⟩ : ∃ W2, W2 = (w.setCell ⟨rb, 5, none⟩ (.int .i32 1)).alloc (.cells C1 59) := ⟨_, rfl⟩
  have hr2 : W2.heap[rb]? = some (.cells (RC n c mb 0 1 x y) 61) := by
    rw [hW2, hp_alloc_lt (by simpa using hb), hp_setCell_eq HR.out]; rfl
  have hm2 : W2.heap[mb]? = some (.map es k) := by
    rw [hW2, hp_alloc_lt (by simpa using lt_of_block HM.out), hp_setCell_ne (Ne.symm (cell_ne_map HR.out HM.out))]; exact HM.out
  have hrs : sb ≠ rb := by
    intro e; have h := HS.out; rw [e, HR.out] at h; simp at h
  have hs2 : W2.heap[sb]? = some (.cells #[.slice none 0 0, .int .i64 0, .bool fail] 39) := by
    rw [hW2, hp_alloc_lt (by simpa using lt_of_block HS.out), hp_setCell_ne hrs]; exact HS.out
  have he2 : ∀ e ∈ es.toList, ∃ c, e.key = SK c ∧ sb ≠ c ∧ IsSock W2 c := fun e he => by
    obtain ⟨c, h1, h2, h3⟩ := HE.out e he
    exact ⟨c, h1, h2, by rw [hW2]; exact (h3.setCell _ _).alloc _⟩
  have hk2 : Kept (fun b => b = rb ∨ b = mb ∨ b = sb) w W2 := by rw [hW2]; exact ((Kept.refl _ w).setCell (p := ⟨rb, 5, none⟩) (.inl (.inl rfl)) _).alloc _
  rw [← hW2]
  clear hW2
  have c8' : W2.cell? ⟨rb, 8, none⟩ = some (.int .u64 x) := cell_at hr2 rfl
  have c9' : W2.cell? ⟨rb, 9, none⟩ = some (.int .i64 y) := cell_at hr2 rfl
  have c10' : W2.cell? ⟨rb, 10, none⟩ = some (.pointer none) := cell_at hr2 rfl
  have HR2 := hide hr2
  have HM2 := hide hm2
  have HS2 := hide hs2
  have HE2 := hide he2
  have HK2 := hide hk2
  clear hr2 hm2 hs2 he2 hk2 HR HM HS HE c5 c8 c9 c10 z5
  have hmeth := method_sd
  go_wp2_with fail
  go_region_with (go_at_call 76; refine (setDeadline_any sb x y fail _ ?_).mono ?_; exact HS2.out; rintro e w1 ⟨⟨v, rfl⟩, hL⟩)
  obtain ⟨hkl, g, cap, Z, hg, hsb, hgg⟩ := hL
  have hk1 : Kept (fun b => b = rb ∨ b = mb ∨ b = sb) w w1 := HK2.out.trans (Kept.mono (a := W2) ⟨hkl.os, hkl.tape, hkl.output, hkl.size, hkl.block⟩ (fun k hk => .inr (.inr hk)))
  have hr1 : w1.heap[rb]? = some (.cells (RC n c mb 0 1 x y) 61) := (hkl.block rb (lt_of_block HR2.out) (Ne.symm hrs)).trans HR2.out
  have hm1 : w1.heap[mb]? = some (.map es k) := (hkl.block mb (lt_of_block HM2.out) (Ne.symm (cell_ne_map HS2.out HM2.out))).trans HM2.out
  have he1 : ∀ e ∈ es.toList, ∃ c, e.key = SK c ∧ sb ≠ c ∧ IsSock w1 c := fun e he => by
    obtain ⟨c, h1, h2, C, h3⟩ := HE2.out e he
    exact ⟨c, h1, h2, C, (hkl.block c (lt_of_block h3) (Ne.symm h2)).trans h3⟩
  have hgw : w.heap.size ≤ g := Nat.le_trans HK2.out.size hg
  have hgr : g ≠ rb := by omega
  have hgm : g ≠ mb := cell_ne_map hgg hm1
  have hsm : sb ≠ mb := cell_ne_map hsb hm1
  have hput := run_put_new hm1 ⟨_, hsb⟩ he1 (.bool true)
  have hne := cell_ne_map hr1 hm1
  have c7' : w1.cell? ⟨rb, 7, none⟩ = some (.map (some mb)) := cell_at hr1 rfl
  have HR1 := hide hr1
  have HM1 := hide hm1
  have HK1 := hide hk1
  have HSB := hide hsb
  have HGG := hide hgg
  clear hr1 hm1 he1 hk1 hsb hgg hkl HR2 HM2 HS2 HE2 HK2 c8' c9' c10' hmeth
  go_wp2_with fail
  obtain ⟨W3, hW3⟩ : ∃ W3, W3 = setBlock w1 mb (.map (es.push { key := SK sb, val := .bool true, born := k }) (k + 1)) := ⟨_, rfl⟩
  have hr3 : W3.heap[rb]? = some (.cells (RC n c mb 0 1 x y) 61) := by rw [hW3, hp_setBlock_ne hne]; exact HR1.out
  have hm3 : W3.heap[mb]? = some (.map (es.push { key := SK sb, val := .bool true, born := k }) (k + 1)) := by rw [hW3]; exact hp_setBlock_eq (lt_of_block HM1.out)
  have hs3 : W3.heap[sb]? = some (.cells #[.slice (some ⟨g, 0, none⟩) 1 cap, .int .i64 0, .bool fail] 39) := by rw [hW3, hp_setBlock_ne hsm]; exact HSB.out
  have hg3 : W3.heap[g]? = some (.cells (#[.int .u64 x, .int .i64 y, .pointer none] ++ Z) 59) := by rw [hW3, hp_setBlock_ne hgm]; exact HGG.out
  have hk3 : Kept (fun b => b = rb ∨ b = mb ∨ b = sb) w W3 := by rw [hW3]; exact HK1.out.setBlock (.inl (.inr (.inl rfl))) _
  rw [← hW3]
  clear hW3 hput
  refine (wg_add1 rb 3 (.int .u32 0) _ (cell_at hr3 rfl) (frozen_at hr3) (cell_at hr3 rfl)).mono ?_
  rintro e w4 ⟨rfl, rfl⟩
  have hr4 := hp_setCell_eq (off := 3) (v := .int .u64 4294967296) hr3
  have hm4 := (hp_setCell_ne (a := ⟨rb, 3, none⟩) (v := .int .u64 4294967296) (Ne.symm hne)).trans hm3
  have hs4 := (hp_setCell_ne (a := ⟨rb, 3, none⟩) (v := .int .u64 4294967296) hrs).trans hs3
  have hg4 := (hp_setCell_ne (a := ⟨rb, 3, none⟩) (v := .int .u64 4294967296) hgr).trans hg3
  have hk4 := hk3.setCell (p := ⟨rb, 3, none⟩) (.inl (.inl rfl)) (.int .u64 4294967296)
  have HR4 := hide hr4
  have HM4 := hide hm4
  have HS4 := hide hs4
  have HG4 := hide hg4
  have HK4 := hide hk4
  clear hr4 hm4 hk4 hs4 hg4 hr3 hm3 hk3 hs3 hg3 HR1 HM1 HK1 HSB HGG
  go_wp2_with fail
  refine leaves_cons (f := 13) (args := #[.pointer (some ⟨rb, 5, none⟩)]) (by simp) (by simp [go_sem]) ?_
  refine (unlock_deferred ⟨rb, 5, none⟩ .returning _ (cell_at HR4.out rfl) (frozen_at HR4.out)).mono ?_
  rintro e u' w'' ⟨rfl, rfl, rfl⟩
  exact ⟨_, results_tmp rfl _ _ _, rfl, HK4.out.setCell (p := ⟨rb, 5, none⟩) (.inl (.inl rfl)) _, hp_setCell_eq HR4.out, (hp_setCell_ne (a := ⟨rb, 5, none⟩) (Ne.symm hne)).trans HM4.out,
    g, cap, Z, hgw, (hp_setCell_ne (a := ⟨rb, 5, none⟩) hrs).trans HS4.out, (hp_setCell_ne (a := ⟨rb, 5, none⟩) hgr).trans HG4.out⟩

end Go.Proofs.Ybulkdphm
