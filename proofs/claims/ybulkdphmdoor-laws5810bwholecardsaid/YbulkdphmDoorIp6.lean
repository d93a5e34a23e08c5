/-
  netip.AddrFrom16.
-/
import Derived.Test.YbulkdphmDoorRows
import Derived.WalkKit
import Derived.ProofKit
import Derived.OpenShut
import Derived.WalkLawsBesides
import Derived.BigQuiet
import Derived.Laws.BitsAllLaws
import Derived.Laws.StructEq
import Derived.Outline
import Derived.Test.YbulkdphmDoorIp5
import Derived.Deep.RegionWith
import Derived.Deep.RegionHeld3
import Derived.Deep.DeepCutAuto
import Derived.Deep.DrawnRows
import Derived.Handy
import Derived.Laws.ResultCell
namespace Go.Proofs.YbulkdphmDoor
open Go.ChangeShapes Go.WideShapes Go.ChangeAt Go.RowKit
open Go.ChangeMaps (setBlock)
set_option linter.unusedVariables false
set_option linter.unusedSimpArgs false


theorem bytes_set {w : World} {b off n rb o : Nat} {xs : List Int} {v : Value} (h : Bytes w b off n xs) (hne : b ≠ rb) : Bytes (w.setCell ⟨rb, o, none⟩ v) b off n xs :=
  ⟨h.len, h.byte, fun i hi => (World.cell?_setCell_other _ _ _ _ (by simp <;> omega)).trans (h.cell i hi)⟩

set_option maxRecDepth 100000 in
set_option maxHeartbeats 3200000 in
/-- netip.AddrFrom16: some address whose handle is z6noz. -/
theorem from16 (x0 x1 x2 x3 x4 x5 x6 x7 x8 x9 x10 x11 x12 x13 x14 x15 : Int) (hb : ∀ x ∈ [x0, x1, x2, x3, x4, x5, x6, x7, x8, x9, x10, x11, x12, x13, x14, x15], 0 ≤ x ∧ x < 256) (w : World) (a4 a6 : Addr) (Z : Zs w a4 a6) :
    Calls Ybad.prog 32 #[.agg #[.int .u8 x0, .int .u8 x1, .int .u8 x2, .int .u8 x3, .int .u8 x4, .int .u8 x5, .int .u8 x6, .int .u8 x7, .int .u8 x8, .int .u8 x9, .int .u8 x10, .int .u8 x11, .int .u8 x12, .int .u8 x13, .int .u8 x14, .int .u8 x15]] w fun e w' => ∃ hi lo : Nat, e = .returned (adr hi lo (some a6)) ∧ hi < 18446744073709551616 ∧ lo < 18446744073709551616 ∧ Below w.heap.size w w' := by
  go_enter Ybad.func32, Ybad.ntmps32
  go_upto_region 1 with fail
  obtain ⟨ab, hab⟩ : ∃ ab, ab = w.heap.size := ⟨_, rfl⟩
  obtain ⟨rb, hrb⟩ : ∃ rb, rb = w.heap.size + 1 := ⟨_, rfl⟩
  obtain ⟨W1, hW1⟩ : ∃ W1, W1 = (w.alloc (.cells #[.int .u8 x0, .int .u8 x1, .int .u8 x2, .int .u8 x3, .int .u8 x4, .int .u8 x5, .int .u8 x6, .int .u8 x7, .int .u8 x8, .int .u8 x9, .int .u8 x10, .int .u8 x11, .int .u8 x12, .int .u8 x13, .int .u8 x14, .int .u8 x15] 73)).alloc (.cells #[.int .u64 0, .int .u64 0, .pointer none] 59) := ⟨_, rfl⟩
  rw [← hW1, ← hrb, ← hab]
  have ka : W1.heap[ab]? = some (.cells #[.int .u8 x0, .int .u8 x1, .int .u8 x2, .int .u8 x3, .int .u8 x4, .int .u8 x5, .int .u8 x6, .int .u8 x7, .int .u8 x8, .int .u8 x9, .int .u8 x10, .int .u8 x11, .int .u8 x12, .int .u8 x13, .int .u8 x14, .int .u8 x15] 73) := by rw [hW1, hp_alloc_lt (by rw [hab]; simp)]; exact hp_alloc_at hab
  have kr : W1.heap[rb]? = some (.cells #[.int .u64 0, .int .u64 0, .pointer none] 59) := by rw [hW1]; exact hp_alloc_at (by rw [hrb]; simp)
  have hbl : Below w.heap.size w W1 := by rw [hW1]; exact ((Below.refl _ _).alloc (Nat.le_refl _) _).alloc (by simp) _
  have z6 := (Z.on hbl).z6
  have h2 : 2 < w.heap.size := World.block_lt_of_cell? w _ Z.z6
  have n1 : 2 ≠ rb := by omega
  have n2 : ab ≠ rb := by omega
  have B1 : Bytes W1 ab 0 8 [x0, x1, x2, x3, x4, x5, x6, x7] := ⟨rfl, fun x hx => hb x (List.mem_of_mem_take (show x ∈ List.take 8 [x0, x1, x2, x3, x4, x5, x6, x7, x8, x9, x10, x11, x12, x13, x14, x15] from hx)), fun i hi => by
    have hd : i = 0 ∨ i = 1 ∨ i = 2 ∨ i = 3 ∨ i = 4 ∨ i = 5 ∨ i = 6 ∨ i = 7 := by omega
    rcases hd with rfl | rfl | rfl | rfl | rfl | rfl | rfl | rfl <;> exact cell_at ka rfl⟩
  have B2 : Bytes W1 ab 8 8 [x8, x9, x10, x11, x12, x13, x14, x15] := ⟨rfl, fun x hx => hb x (List.mem_of_mem_drop (show x ∈ List.drop 8 [x0, x1, x2, x3, x4, x5, x6, x7, x8, x9, x10, x11, x12, x13, x14, x15] from hx)), fun i hi => by
    have hd : i = 0 ∨ i = 1 ∨ i = 2 ∨ i = 3 ∨ i = 4 ∨ i = 5 ∨ i = 6 ∨ i = 7 := by omega
    rcases hd with rfl | rfl | rfl | rfl | rfl | rfl | rfl | rfl <;> exact cell_at ka rfl⟩
  have HS0 : W1.drew.cell? ⟨2, 0, none⟩ = some (.pointer (some a6)) ∧ Bytes W1.drew ab 0 8 [x0, x1, x2, x3, x4, x5, x6, x7] ∧ Bytes W1.drew ab 8 8 [x8, x9, x10, x11, x12, x13, x14, x15] := ⟨z6, ⟨B1.len, B1.byte, B1.cell⟩, ⟨B2.len, B2.byte, B2.cell⟩⟩
  have HK := hide kr
  have HBL := hide hbl
  have HRB := hide hrb
  clear Z hW1 hab hrb ka kr hbl z6 B1 B2 hb h2
  refine wp_region_held_drew (S := fun w' => w'.cell? ⟨2, 0, none⟩ = some (.pointer (some a6)) ∧ Bytes w' ab 0 8 [x0, x1, x2, x3, x4, x5, x6, x7] ∧ Bytes w' ab 8 8 [x8, x9, x10, x11, x12, x13, x14, x15]) (by kernel_rfl) ?_ (fun hHeld => ?_)
  · exact HS0
  refine wpAnyH_take (i := 0) (oi := { dst := some 3, op := Op.slice 73 (Operand.tmp 1) none (some (Operand.const (Value.int IntKind.i64 8))) none, type := 22, pos := "netip.go:102", after := #[], guard := none }) (v := ?_) rfl (by kernel_rfl) (by kernel_rfl) (by kernel_rfl) (fun _ _ _ h => h) (Or.inl ⟨by rfl, ?_⟩) hHeld ?_
  rotate_left
  · intro w hSw
    (try dsimp only at hSw)
    go_simp
    try with_reducible rfl
  try simp only [Act.put, List.setIfInBounds_toArray, List.set_cons_zero, List.set_cons_succ]
  refine wpAnyH_take (i := 2) (oi := { dst := some 5, op := Op.slice 73 (Operand.tmp 1) (some (Operand.const (Value.int IntKind.i64 8))) none none, type := 22, pos := "netip.go:102", after := #[], guard := none }) (v := ?_) rfl (by kernel_rfl) (by kernel_rfl) (by kernel_rfl) (fun _ _ _ h => h) (Or.inl ⟨by rfl, ?_⟩) hHeld ?_
  rotate_left
  · intro w hSw
    (try dsimp only at hSw)
    go_simp
    try with_reducible rfl
  try simp only [Act.put, List.setIfInBounds_toArray, List.set_cons_zero, List.set_cons_succ]
  refine wpAnyH_take (i := 5) (oi := { dst := some 8, op := Op.load 57 (Operand.global 2), type := 57, pos := "netip.go:102", after := #[], guard := none }) (v := ?_) rfl (by kernel_rfl) (by kernel_rfl) (by kernel_rfl) (fun _ _ _ h => h) (Or.inl ⟨by rfl, ?_⟩) hHeld ?_
  rotate_left
  · intro w hSw
    (try dsimp only at hSw)
    go_simp
    try with_reducible rfl
  try simp only [Act.put, List.setIfInBounds_toArray, List.set_cons_zero, List.set_cons_succ]
  refine wpAnyH_ready (rs := [1]) (by kernel_rfl) (by simp) ?_
  refine AllReadyH.cons (o := { dst := some 4, op := Op.call { callee := Callee.value (Operand.func 43), args := #[Operand.tmp 3], argTypes := #[22] }, type := 38, pos := "netip.go:104", after := #[{ on := 0, ground := Ground.data }], guard := none }) rfl (fun K hK => ?_) AllReadyH.nil
  go_simp
  obtain ⟨t1, t2, t3⟩ := hHeld
  refine (be64 ab 0 8 16 _ _ t2 (by omega)).mono ?_
  rintro e w' ⟨U, q1, rfl, hU, rfl⟩
  have HE1 : Hid (U < 18446744073709551616) := hU
  clear hU
  go_wp2_with fail
  refine hK.out _ _ ?_ (fun hHeld => ?_)
  · exact ⟨t1, ⟨t2.len, t2.byte, t2.cell⟩, ⟨t3.len, t3.byte, t3.cell⟩⟩
  clear hK K
  try simp only [Act.put, List.setIfInBounds_toArray, List.set_cons_zero, List.set_cons_succ]
  refine wpAnyH_ready (rs := [3]) (by kernel_rfl) (by simp) ?_
  refine AllReadyH.cons (o := { dst := some 6, op := Op.call { callee := Callee.value (Operand.func 43), args := #[Operand.tmp 5], argTypes := #[22] }, type := 38, pos := "netip.go:105", after := #[{ on := 2, ground := Ground.data }, { on := 1, ground := Ground.chain }], guard := none }) rfl (fun K hK => ?_) AllReadyH.nil
  go_simp
  obtain ⟨t1, t2, t3⟩ := hHeld
  refine (be64 ab 8 8 8 _ _ t3 (by omega)).mono ?_
  rintro e w' ⟨V, q2, rfl, hV, rfl⟩
  have HE2 : Hid (V < 18446744073709551616) := hV
  clear hV
  go_wp2_with fail
  refine hK.out _ _ ?_ (fun hHeld => ?_)
  · exact ⟨t1, ⟨t2.len, t2.byte, t2.cell⟩, ⟨t3.len, t3.byte, t3.cell⟩⟩
  clear hK K
  try simp only [Act.put, List.setIfInBounds_toArray, List.set_cons_zero, List.set_cons_succ]
  refine wpAnyH_take (i := 4) (oi := { dst := some 7, op := Op.build 54 #[(0, Operand.tmp 4), (1, Operand.tmp 6)], type := 54, pos := "netip.go:102", after := #[{ on := 1, ground := Ground.data }, { on := 3, ground := Ground.data }], guard := none }) (v := ?_) rfl (by kernel_rfl) (by kernel_rfl) (by kernel_rfl) (fun _ _ _ h => h) (Or.inl ⟨by rfl, ?_⟩) hHeld ?_
  rotate_left
  · intro w hSw
    (try dsimp only at hSw)
    go_simp
    try with_reducible rfl
  try simp only [Act.put, List.setIfInBounds_toArray, List.set_cons_zero, List.set_cons_succ]
  refine wpAnyH_take (i := 6) (oi := { dst := some 9, op := Op.build 59 #[(0, Operand.tmp 7), (1, Operand.tmp 8)], type := 59, pos := "netip.go:102", after := #[{ on := 4, ground := Ground.data }, { on := 5, ground := Ground.data }], guard := none }) (v := ?_) rfl (by kernel_rfl) (by kernel_rfl) (by kernel_rfl) (fun _ _ _ h => h) (Or.inl ⟨by rfl, ?_⟩) hHeld ?_
  rotate_left
  · intro w hSw
    (try dsimp only at hSw)
    go_simp
    try with_reducible rfl
  try simp only [Act.put, List.setIfInBounds_toArray, List.set_cons_zero, List.set_cons_succ]
  refine wpAnyH_ready (rs := [7]) (by kernel_rfl) (by simp) ?_
  refine AllReadyH.cons (o := { dst := none, op := Op.store 59 (Operand.tmp 2) (Operand.tmp 9), type := 0, pos := "netip.go:102", after := #[{ on := 6, ground := Ground.data }, { on := 3, ground := Ground.chain }, { on := 0, ground := Ground.phase }, { on := 1, ground := Ground.phase }, { on := 2, ground := Ground.phase }, { on := 3, ground := Ground.phase }, { on := 4, ground := Ground.phase }, { on := 5, ground := Ground.phase }, { on := 6, ground := Ground.phase }], guard := none }) rfl (fun K hK => ?_) AllReadyH.nil
  obtain ⟨t1, t2, t3⟩ := hHeld
  have t4' : W1.cell? ⟨rb, 0, none⟩ = some (.int .u64 0) := cell_at HK.out rfl
  have t5' : W1.cell? ⟨rb, 1, none⟩ = some (.int .u64 0) := cell_at HK.out rfl
  have t6' : W1.cell? ⟨rb, 2, none⟩ = some (.pointer none) := cell_at HK.out rfl
  have t7' : W1.frozen? ⟨rb, 0, none⟩ = false := frozen_at HK.out
  have t8' : W1.frozen? ⟨rb, 1, none⟩ = false := frozen_at HK.out
  have t9' : W1.frozen? ⟨rb, 2, none⟩ = false := frozen_at HK.out
  go_simp
  refine hK.out _ _ ?_ (fun hHeld => ?_)
  · exact ⟨(World.cell?_setCell_other _ _ _ _ (by simp <;> omega)).trans ((World.cell?_setCell_other _ _ _ _ (by simp <;> omega)).trans ((World.cell?_setCell_other _ _ _ _ (by simp <;> omega)).trans t1)), bytes_set (bytes_set (bytes_set ⟨t2.len, t2.byte, t2.cell⟩ (by omega)) (by omega)) (by omega), bytes_set (bytes_set (bytes_set ⟨t3.len, t3.byte, t3.cell⟩ (by omega)) (by omega)) (by omega)⟩
  clear hK K
  try simp only [Act.put]
  refine wpAnyH_done (by kernel_rfl) ?_ _
  go_wp2_with fail
  have hk2 : (((W1.setCell ⟨rb, 0, none⟩ (.int .u64 (U : Int))).setCell ⟨rb, 1, none⟩ (.int .u64 (V : Int))).setCell ⟨rb, 2, none⟩ (.pointer (some a6))).heap[rb]? = some (.cells #[.int .u64 (U : Int), .int .u64 (V : Int), .pointer (some a6)] 59) := by
    rw [hp_setCell_eq (hp_setCell_eq (hp_setCell_eq HK.out))]
    rfl
  try simp only [Exit.inBlock, Exit.then]
  refine bodyPost_ret (res_one rfl _ _ ⟨rb, 0, none⟩ _ rfl (load59 rb (.int .u64 (U : Int)) (.int .u64 (V : Int)) (.pointer (some a6)) _ (cell_at (w := _) hk2 rfl) (cell_at hk2 rfl) (cell_at hk2 rfl))) rfl ?_
  refine ⟨U, V, rfl, HE1.out, HE2.out, ?_⟩
  have hr := HRB.out
  exact below_drewN (Below.setCell (Below.setCell (Below.setCell HBL.out (by simp; omega) _) (by simp; omega) _) (by simp; omega) _) _
end Go.Proofs.YbulkdphmDoor
