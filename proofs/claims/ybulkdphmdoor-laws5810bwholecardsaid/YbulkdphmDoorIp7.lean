/-
  Addr.v6u16.
-/
import Derived.Test.YbulkdphmDoorRows
import Derived.WalkKit
import Derived.ProofKit
import Derived.OpenShut
import Derived.WalkLawsBesides
import Derived.BigQuiet
import Derived.Laws.BitsAllLaws
import Derived.Laws.StructEq
import Derived.Outline
import Derived.Test.YbulkdphmDoorIp6
import Derived.Deep.RegionWith
import Derived.Deep.RegionHeld3
import Derived.Deep.DeepCutAuto
import Derived.Deep.DrawnRows
import Derived.Handy
import Derived.Laws.ResultCell
namespace Go.Proofs.YbulkdphmDoor
open Go.ChangeShapes Go.WideShapes Go.ChangeAt Go.RowKit
open Go.ChangeMaps (setBlock)
set_option linter.unusedVariables false
set_option linter.unusedSimpArgs false


theorem idx94_0 (p q : Option Addr) (w : World) : (Instr.index 94 (.agg #[.pointer p, .pointer q]) (.int .u8 0)).run Ybad.prog w = .ok (.pointer p) w := by kernel_rfl
theorem idx94_1 (p q : Option Addr) (w : World) : (Instr.index 94 (.agg #[.pointer p, .pointer q]) (.int .u8 1)).run Ybad.prog w = .ok (.pointer q) w := by kernel_rfl

set_option maxRecDepth 100000 in
/-- (*uint128).halves -/
theorem halves (hb : Nat) (w : World) : Calls Ybad.prog 54 #[.pointer (some ⟨hb, 0, none⟩)] w fun e w' => e = .returned (.agg #[.pointer (some ⟨hb, 0, none⟩), .pointer (some ⟨hb, 1, none⟩)]) ∧ Below w.heap.size w w' := by
  go_enter Ybad.func54, Ybad.ntmps54
  go_upto_region 1 with fail
  obtain ⟨rb, hrb⟩ : ∃ rb, rb = w.heap.size := ⟨_, rfl⟩
  obtain ⟨W1, hW1⟩ : ∃ W1, W1 = w.alloc (.cells #[.pointer none, .pointer none] 94) := ⟨_, rfl⟩
  rw [← hW1, ← hrb]
  have kr : W1.heap[rb]? = some (.cells #[.pointer none, .pointer none] 94) := by rw [hW1]; exact hp_alloc_at hrb
  have hbl : Below w.heap.size w W1 := by rw [hW1]; exact (Below.refl _ _).alloc (Nat.le_refl _) _
  have HK := hide kr
  have HBL := hide hbl
  have HRB := hide hrb
  clear hW1 hrb kr hbl
  refine wp_region_held_drew (S := fun _ => True) (by kernel_rfl) ?_ (fun hHeld => ?_)
  · trivial
  refine wpAnyH_take (i := 0) (oi := { dst := some 3, op := Op.move (Operand.tmp 0), type := 98, pos := "uint128.go:68", after := #[], guard := none }) (v := ?_) rfl (by kernel_rfl) (by kernel_rfl) (by kernel_rfl) (fun _ _ _ h => h) (Or.inl ⟨by rfl, ?_⟩) hHeld ?_
  rotate_left
  · intro w hSw
    (try dsimp only at hSw)
    go_simp
    try with_reducible rfl
  try simp only [Act.put, List.setIfInBounds_toArray, List.set_cons_zero, List.set_cons_succ]
  refine wpAnyH_take (i := 1) (oi := { dst := some 4, op := Op.nilCheck (Operand.tmp 3), type := 0, pos := "uint128.go:68", after := #[{ on := 0, ground := Ground.data }], guard := none }) (v := ?_) rfl (by kernel_rfl) (by kernel_rfl) (by kernel_rfl) (fun _ _ _ h => h) (Or.inl ⟨by rfl, ?_⟩) hHeld ?_
  rotate_left
  · intro w hSw
    (try dsimp only at hSw)
    go_simp
    try with_reducible rfl
  try simp only [Act.put, List.setIfInBounds_toArray, List.set_cons_zero, List.set_cons_succ]
  refine wpAnyH_take (i := 2) (oi := { dst := some 5, op := Op.fieldAddr 54 (Operand.tmp 4) 0, type := 0, pos := "uint128.go:68", after := #[{ on := 1, ground := Ground.data }], guard := none }) (v := ?_) rfl (by kernel_rfl) (by kernel_rfl) (by kernel_rfl) (fun _ _ _ h => h) (Or.inl ⟨by rfl, ?_⟩) hHeld ?_
  rotate_left
  · intro w hSw
    (try dsimp only at hSw)
    go_simp
    try with_reducible rfl
  try simp only [Act.put, List.setIfInBounds_toArray, List.set_cons_zero, List.set_cons_succ]
  refine wpAnyH_take (i := 3) (oi := { dst := some 6, op := Op.move (Operand.tmp 0), type := 98, pos := "uint128.go:68", after := #[], guard := none }) (v := ?_) rfl (by kernel_rfl) (by kernel_rfl) (by kernel_rfl) (fun _ _ _ h => h) (Or.inl ⟨by rfl, ?_⟩) hHeld ?_
  rotate_left
  · intro w hSw
    (try dsimp only at hSw)
    go_simp
    try with_reducible rfl
  try simp only [Act.put, List.setIfInBounds_toArray, List.set_cons_zero, List.set_cons_succ]
  refine wpAnyH_take (i := 4) (oi := { dst := some 7, op := Op.nilCheck (Operand.tmp 6), type := 0, pos := "uint128.go:68", after := #[{ on := 3, ground := Ground.data }], guard := none }) (v := ?_) rfl (by kernel_rfl) (by kernel_rfl) (by kernel_rfl) (fun _ _ _ h => h) (Or.inl ⟨by rfl, ?_⟩) hHeld ?_
  rotate_left
  · intro w hSw
    (try dsimp only at hSw)
    go_simp
    try with_reducible rfl
  try simp only [Act.put, List.setIfInBounds_toArray, List.set_cons_zero, List.set_cons_succ]
  refine wpAnyH_take (i := 5) (oi := { dst := some 8, op := Op.fieldAddr 54 (Operand.tmp 7) 1, type := 0, pos := "uint128.go:68", after := #[{ on := 4, ground := Ground.data }], guard := none }) (v := ?_) rfl (by kernel_rfl) (by kernel_rfl) (by kernel_rfl) (fun _ _ _ h => h) (Or.inl ⟨by rfl, ?_⟩) hHeld ?_
  rotate_left
  · intro w hSw
    (try dsimp only at hSw)
    go_simp
    try with_reducible rfl
  try simp only [Act.put, List.setIfInBounds_toArray, List.set_cons_zero, List.set_cons_succ]
  refine wpAnyH_take (i := 6) (oi := { dst := some 9, op := Op.build 94 #[(0, Operand.tmp 5), (1, Operand.tmp 8)], type := 94, pos := "uint128.go:68", after := #[{ on := 2, ground := Ground.data }, { on := 5, ground := Ground.data }], guard := none }) (v := ?_) rfl (by kernel_rfl) (by kernel_rfl) (by kernel_rfl) (fun _ _ _ h => h) (Or.inl ⟨by rfl, ?_⟩) hHeld ?_
  rotate_left
  · intro w hSw
    (try dsimp only at hSw)
    go_simp
    try with_reducible rfl
  try simp only [Act.put, List.setIfInBounds_toArray, List.set_cons_zero, List.set_cons_succ]
  refine wpAnyH_ready (rs := [7]) (by kernel_rfl) (by simp) ?_
  refine AllReadyH.cons (o := { dst := none, op := Op.store 94 (Operand.tmp 2) (Operand.tmp 9), type := 0, pos := "uint128.go:68", after := #[{ on := 6, ground := Ground.data }, { on := 0, ground := Ground.phase }, { on := 1, ground := Ground.phase }, { on := 2, ground := Ground.phase }, { on := 3, ground := Ground.phase }, { on := 4, ground := Ground.phase }, { on := 5, ground := Ground.phase }, { on := 6, ground := Ground.phase }], guard := none }) rfl (fun K hK => ?_) AllReadyH.nil
  have t0 : W1.cell? ⟨rb, 0, none⟩ = some (.pointer none) := cell_at HK.out rfl
  have t1 : W1.cell? ⟨rb, 1, none⟩ = some (.pointer none) := cell_at HK.out rfl
  have t2 : W1.frozen? ⟨rb, 0, none⟩ = false := frozen_at HK.out
  have t3 : W1.frozen? ⟨rb, 1, none⟩ = false := frozen_at HK.out
  go_simp
  refine hK.out _ _ ?_ (fun hHeld => ?_)
  · trivial
  clear hK K
  try simp only [Act.put]
  refine wpAnyH_done (by kernel_rfl) ?_ _
  go_wp2_with fail
  have hk2 : ((W1.setCell ⟨rb, 0, none⟩ (.pointer (some ⟨hb, 0, none⟩))).setCell ⟨rb, 1, none⟩ (.pointer (some ⟨hb, 1, none⟩))).heap[rb]? = some (.cells #[.pointer (some ⟨hb, 0, none⟩), .pointer (some ⟨hb, 1, none⟩)] 94) := by
    rw [hp_setCell_eq (hp_setCell_eq HK.out)]
    rfl
  try simp only [Exit.inBlock, Exit.then]
  refine bodyPost_ret (res_one rfl _ _ ⟨rb, 0, none⟩ _ rfl (load94 rb (.pointer (some ⟨hb, 0, none⟩)) (.pointer (some ⟨hb, 1, none⟩)) _ (cell_at hk2 rfl) (cell_at hk2 rfl))) rfl ?_
  refine ⟨rfl, ?_⟩
  have hr := HRB.out
  exact below_drewN (Below.setCell (Below.setCell HBL.out (by simp; omega) _) (by simp; omega) _) _

set_option maxRecDepth 100000 in
theorem v6_0 (hi lo : Nat) (z : Option Addr) (w : World) (h1 : hi < 18446744073709551616) (h2 : lo < 18446744073709551616) : Calls Ybad.prog 49 #[adr hi lo z, .int .u8 0] w fun e w' => ∃ x : Nat, e = .returned (.int .u16 (x : Int)) ∧ x < 65536 ∧ Below w.heap.size w w' := by
  obtain ⟨r, hr⟩ : ∃ r, r = hi / 281474976710656 % 65536 := ⟨_, rfl⟩
  have hw : IntKind.u16.wrap ((hi : Int) / 281474976710656) = (r : Int) := by simp [IntKind.wrap, IntKind.bits, IntKind.signed]; omega
  have hr16 : r < 65536 := by omega
  obtain ⟨tb, htb⟩ : ∃ tb, tb = w.heap.size := ⟨_, rfl⟩
  obtain ⟨W0, hW0⟩ : ∃ W0, W0 = w.alloc (.cells #[.int .u64 (hi : Int), .int .u64 (lo : Int), .pointer z] 59) := ⟨_, rfl⟩
  have hbx : W0.heap[tb]? = some (.cells #[.int .u64 (hi : Int), .int .u64 (lo : Int), .pointer z] 59) := by rw [hW0]; exact hp_alloc_at htb
  have hb : Below w.heap.size w W0 := by rw [hW0]; exact (Below.refl _ _).alloc (Nat.le_refl _) _
  have HH : Hid (Calls Ybad.prog 54 #[.pointer (some ⟨tb, 0, none⟩)] W0 fun e w' => e = .returned (.agg #[.pointer (some ⟨tb, 0, none⟩), .pointer (some ⟨tb, 1, none⟩)]) ∧ (Below W0.heap.size W0 w' ∧ w'.cell? ⟨tb, 0, none⟩ = some (.int .u64 (hi : Int)))) :=
    (halves tb W0).mono fun e w' hh => ⟨hh.1, hh.2, cell_at ((hh.2.block tb (lt_of_block hbx)).trans hbx) rfl⟩
  have HB := hide hb
  have HW0 := hide hW0
  have HTB := hide htb
  have HR := hide hr
  clear hb hW0 htb hbx hr
  go_enter Ybad.func49, Ybad.ntmps49
  go_upto_region 1 with fail
  rw [← HTB.out, ← HW0.out]
  have kx := idx94_0
  go_wp2_with (go_at_call 54; refine HH.out.mono ?_; rintro e W1 ⟨rfl, hh, c0⟩; have H1 := hide hh; clear hh)
  go_ret
  exact ⟨r, rfl, hr16, HB.out.trans (Below.mono H1.out HB.out.size)⟩

set_option maxRecDepth 100000 in
theorem v6_1 (hi lo : Nat) (z : Option Addr) (w : World) (h1 : hi < 18446744073709551616) (h2 : lo < 18446744073709551616) : Calls Ybad.prog 49 #[adr hi lo z, .int .u8 1] w fun e w' => ∃ x : Nat, e = .returned (.int .u16 (x : Int)) ∧ x < 65536 ∧ Below w.heap.size w w' := by
  obtain ⟨r, hr⟩ : ∃ r, r = hi / 4294967296 % 65536 := ⟨_, rfl⟩
  have hw : IntKind.u16.wrap ((hi : Int) / 4294967296) = (r : Int) := by simp [IntKind.wrap, IntKind.bits, IntKind.signed]; omega
  have hr16 : r < 65536 := by omega
  obtain ⟨tb, htb⟩ : ∃ tb, tb = w.heap.size := ⟨_, rfl⟩
  obtain ⟨W0, hW0⟩ : ∃ W0, W0 = w.alloc (.cells #[.int .u64 (hi : Int), .int .u64 (lo : Int), .pointer z] 59) := ⟨_, rfl⟩
  have hbx : W0.heap[tb]? = some (.cells #[.int .u64 (hi : Int), .int .u64 (lo : Int), .pointer z] 59) := by rw [hW0]; exact hp_alloc_at htb
  have hb : Below w.heap.size w W0 := by rw [hW0]; exact (Below.refl _ _).alloc (Nat.le_refl _) _
  have HH : Hid (Calls Ybad.prog 54 #[.pointer (some ⟨tb, 0, none⟩)] W0 fun e w' => e = .returned (.agg #[.pointer (some ⟨tb, 0, none⟩), .pointer (some ⟨tb, 1, none⟩)]) ∧ (Below W0.heap.size W0 w' ∧ w'.cell? ⟨tb, 0, none⟩ = some (.int .u64 (hi : Int)))) :=
    (halves tb W0).mono fun e w' hh => ⟨hh.1, hh.2, cell_at ((hh.2.block tb (lt_of_block hbx)).trans hbx) rfl⟩
  have HB := hide hb
  have HW0 := hide hW0
  have HTB := hide htb
  have HR := hide hr
  clear hb hW0 htb hbx hr
  go_enter Ybad.func49, Ybad.ntmps49
  go_upto_region 1 with fail
  rw [← HTB.out, ← HW0.out]
  have kx := idx94_0
  go_wp2_with (go_at_call 54; refine HH.out.mono ?_; rintro e W1 ⟨rfl, hh, c0⟩; have H1 := hide hh; clear hh)
  go_ret
  exact ⟨r, rfl, hr16, HB.out.trans (Below.mono H1.out HB.out.size)⟩

set_option maxRecDepth 100000 in
theorem v6_2 (hi lo : Nat) (z : Option Addr) (w : World) (h1 : hi < 18446744073709551616) (h2 : lo < 18446744073709551616) : Calls Ybad.prog 49 #[adr hi lo z, .int .u8 2] w fun e w' => ∃ x : Nat, e = .returned (.int .u16 (x : Int)) ∧ x < 65536 ∧ Below w.heap.size w w' := by
  obtain ⟨r, hr⟩ : ∃ r, r = hi / 65536 % 65536 := ⟨_, rfl⟩
  have hw : IntKind.u16.wrap ((hi : Int) / 65536) = (r : Int) := by simp [IntKind.wrap, IntKind.bits, IntKind.signed]; omega
  have hr16 : r < 65536 := by omega
  obtain ⟨tb, htb⟩ : ∃ tb, tb = w.heap.size := ⟨_, rfl⟩
  obtain ⟨W0, hW0⟩ : ∃ W0, W0 = w.alloc (.cells #[.int .u64 (hi : Int), .int .u64 (lo : Int), .pointer z] 59) := ⟨_, rfl⟩
  have hbx : W0.heap[tb]? = some (.cells #[.int .u64 (hi : Int), .int .u64 (lo : Int), .pointer z] 59) := by rw [hW0]; exact hp_alloc_at htb
  have hb : Below w.heap.size w W0 := by rw [hW0]; exact (Below.refl _ _).alloc (Nat.le_refl _) _
  have HH : Hid (Calls Ybad.prog 54 #[.pointer (some ⟨tb, 0, none⟩)] W0 fun e w' => e = .returned (.agg #[.pointer (some ⟨tb, 0, none⟩), .pointer (some ⟨tb, 1, none⟩)]) ∧ (Below W0.heap.size W0 w' ∧ w'.cell? ⟨tb, 0, none⟩ = some (.int .u64 (hi : Int)))) :=
    (halves tb W0).mono fun e w' hh => ⟨hh.1, hh.2, cell_at ((hh.2.block tb (lt_of_block hbx)).trans hbx) rfl⟩
  have HB := hide hb
  have HW0 := hide hW0
  have HTB := hide htb
  have HR := hide hr
  clear hb hW0 htb hbx hr
  go_enter Ybad.func49, Ybad.ntmps49
  go_upto_region 1 with fail
  rw [← HTB.out, ← HW0.out]
  have kx := idx94_0
  go_wp2_with (go_at_call 54; refine HH.out.mono ?_; rintro e W1 ⟨rfl, hh, c0⟩; have H1 := hide hh; clear hh)
  go_ret
  exact ⟨r, rfl, hr16, HB.out.trans (Below.mono H1.out HB.out.size)⟩

set_option maxRecDepth 100000 in
theorem v6_3 (hi lo : Nat) (z : Option Addr) (w : World) (h1 : hi < 18446744073709551616) (h2 : lo < 18446744073709551616) : Calls Ybad.prog 49 #[adr hi lo z, .int .u8 3] w fun e w' => ∃ x : Nat, e = .returned (.int .u16 (x : Int)) ∧ x < 65536 ∧ Below w.heap.size w w' := by
  obtain ⟨r, hr⟩ : ∃ r, r = hi % 65536 := ⟨_, rfl⟩
  have hw : IntKind.u16.wrap ((hi : Int)) = (r : Int) := by simp [IntKind.wrap, IntKind.bits, IntKind.signed]; omega
  have hr16 : r < 65536 := by omega
  obtain ⟨tb, htb⟩ : ∃ tb, tb = w.heap.size := ⟨_, rfl⟩
  obtain ⟨W0, hW0⟩ : ∃ W0, W0 = w.alloc (.cells #[.int .u64 (hi : Int), .int .u64 (lo : Int), .pointer z] 59) := ⟨_, rfl⟩
  have hbx : W0.heap[tb]? = some (.cells #[.int .u64 (hi : Int), .int .u64 (lo : Int), .pointer z] 59) := by rw [hW0]; exact hp_alloc_at htb
  have hb : Below w.heap.size w W0 := by rw [hW0]; exact (Below.refl _ _).alloc (Nat.le_refl _) _
  have HH : Hid (Calls Ybad.prog 54 #[.pointer (some ⟨tb, 0, none⟩)] W0 fun e w' => e = .returned (.agg #[.pointer (some ⟨tb, 0, none⟩), .pointer (some ⟨tb, 1, none⟩)]) ∧ (Below W0.heap.size W0 w' ∧ w'.cell? ⟨tb, 0, none⟩ = some (.int .u64 (hi : Int)))) :=
    (halves tb W0).mono fun e w' hh => ⟨hh.1, hh.2, cell_at ((hh.2.block tb (lt_of_block hbx)).trans hbx) rfl⟩
  have HB := hide hb
  have HW0 := hide hW0
  have HTB := hide htb
  have HR := hide hr
  clear hb hW0 htb hbx hr
  go_enter Ybad.func49, Ybad.ntmps49
  go_upto_region 1 with fail
  rw [← HTB.out, ← HW0.out]
  have kx := idx94_0
  go_wp2_with (go_at_call 54; refine HH.out.mono ?_; rintro e W1 ⟨rfl, hh, c0⟩; have H1 := hide hh; clear hh)
  go_ret
  exact ⟨r, rfl, hr16, HB.out.trans (Below.mono H1.out HB.out.size)⟩

set_option maxRecDepth 100000 in
theorem v6_4 (hi lo : Nat) (z : Option Addr) (w : World) (h1 : hi < 18446744073709551616) (h2 : lo < 18446744073709551616) : Calls Ybad.prog 49 #[adr hi lo z, .int .u8 4] w fun e w' => ∃ x : Nat, e = .returned (.int .u16 (x : Int)) ∧ x < 65536 ∧ Below w.heap.size w w' := by
  obtain ⟨r, hr⟩ : ∃ r, r = lo / 281474976710656 % 65536 := ⟨_, rfl⟩
  have hw : IntKind.u16.wrap ((lo : Int) / 281474976710656) = (r : Int) := by simp [IntKind.wrap, IntKind.bits, IntKind.signed]; omega
  have hr16 : r < 65536 := by omega
  obtain ⟨tb, htb⟩ : ∃ tb, tb = w.heap.size := ⟨_, rfl⟩
  obtain ⟨W0, hW0⟩ : ∃ W0, W0 = w.alloc (.cells #[.int .u64 (hi : Int), .int .u64 (lo : Int), .pointer z] 59) := ⟨_, rfl⟩
  have hbx : W0.heap[tb]? = some (.cells #[.int .u64 (hi : Int), .int .u64 (lo : Int), .pointer z] 59) := by rw [hW0]; exact hp_alloc_at htb
  have hb : Below w.heap.size w W0 := by rw [hW0]; exact (Below.refl _ _).alloc (Nat.le_refl _) _
  have HH : Hid (Calls Ybad.prog 54 #[.pointer (some ⟨tb, 0, none⟩)] W0 fun e w' => e = .returned (.agg #[.pointer (some ⟨tb, 0, none⟩), .pointer (some ⟨tb, 1, none⟩)]) ∧ (Below W0.heap.size W0 w' ∧ w'.cell? ⟨tb, 1, none⟩ = some (.int .u64 (lo : Int)))) :=
    (halves tb W0).mono fun e w' hh => ⟨hh.1, hh.2, cell_at ((hh.2.block tb (lt_of_block hbx)).trans hbx) rfl⟩
  have HB := hide hb
  have HW0 := hide hW0
  have HTB := hide htb
  have HR := hide hr
  clear hb hW0 htb hbx hr
  go_enter Ybad.func49, Ybad.ntmps49
  go_upto_region 1 with fail
  rw [← HTB.out, ← HW0.out]
  have kx := idx94_1
  go_wp2_with (go_at_call 54; refine HH.out.mono ?_; rintro e W1 ⟨rfl, hh, c0⟩; have H1 := hide hh; clear hh)
  go_ret
  exact ⟨r, rfl, hr16, HB.out.trans (Below.mono H1.out HB.out.size)⟩

set_option maxRecDepth 100000 in
theorem v6_5 (hi lo : Nat) (z : Option Addr) (w : World) (h1 : hi < 18446744073709551616) (h2 : lo < 18446744073709551616) : Calls Ybad.prog 49 #[adr hi lo z, .int .u8 5] w fun e w' => ∃ x : Nat, e = .returned (.int .u16 (x : Int)) ∧ x < 65536 ∧ Below w.heap.size w w' := by
  obtain ⟨r, hr⟩ : ∃ r, r = lo / 4294967296 % 65536 := ⟨_, rfl⟩
  have hw : IntKind.u16.wrap ((lo : Int) / 4294967296) = (r : Int) := by simp [IntKind.wrap, IntKind.bits, IntKind.signed]; omega
  have hr16 : r < 65536 := by omega
  obtain ⟨tb, htb⟩ : ∃ tb, tb = w.heap.size := ⟨_, rfl⟩
  obtain ⟨W0, hW0⟩ : ∃ W0, W0 = w.alloc (.cells #[.int .u64 (hi : Int), .int .u64 (lo : Int), .pointer z] 59) := ⟨_, rfl⟩
  have hbx : W0.heap[tb]? = some (.cells #[.int .u64 (hi : Int), .int .u64 (lo : Int), .pointer z] 59) := by rw [hW0]; exact hp_alloc_at htb
  have hb : Below w.heap.size w W0 := by rw [hW0]; exact (Below.refl _ _).alloc (Nat.le_refl _) _
  have HH : Hid (Calls Ybad.prog 54 #[.pointer (some ⟨tb, 0, none⟩)] W0 fun e w' => e = .returned (.agg #[.pointer (some ⟨tb, 0, none⟩), .pointer (some ⟨tb, 1, none⟩)]) ∧ (Below W0.heap.size W0 w' ∧ w'.cell? ⟨tb, 1, none⟩ = some (.int .u64 (lo : Int)))) :=
    (halves tb W0).mono fun e w' hh => ⟨hh.1, hh.2, cell_at ((hh.2.block tb (lt_of_block hbx)).trans hbx) rfl⟩
  have HB := hide hb
  have HW0 := hide hW0
  have HTB := hide htb
  have HR := hide hr
  clear hb hW0 htb hbx hr
  go_enter Ybad.func49, Ybad.ntmps49
  go_upto_region 1 with fail
  rw [← HTB.out, ← HW0.out]
  have kx := idx94_1
  go_wp2_with (go_at_call 54; refine HH.out.mono ?_; rintro e W1 ⟨rfl, hh, c0⟩; have H1 := hide hh; clear hh)
  go_ret
  exact ⟨r, rfl, hr16, HB.out.trans (Below.mono H1.out HB.out.size)⟩

set_option maxRecDepth 100000 in
theorem v6_6 (hi lo : Nat) (z : Option Addr) (w : World) (h1 : hi < 18446744073709551616) (h2 : lo < 18446744073709551616) : Calls Ybad.prog 49 #[adr hi lo z, .int .u8 6] w fun e w' => ∃ x : Nat, e = .returned (.int .u16 (x : Int)) ∧ x < 65536 ∧ Below w.heap.size w w' := by
  obtain ⟨r, hr⟩ : ∃ r, r = lo / 65536 % 65536 := ⟨_, rfl⟩
  have hw : IntKind.u16.wrap ((lo : Int) / 65536) = (r : Int) := by simp [IntKind.wrap, IntKind.bits, IntKind.signed]; omega
  have hr16 : r < 65536 := by omega
  obtain ⟨tb, htb⟩ : ∃ tb, tb = w.heap.size := ⟨_, rfl⟩
  obtain ⟨W0, hW0⟩ : ∃ W0, W0 = w.alloc (.cells #[.int .u64 (hi : Int), .int .u64 (lo : Int), .pointer z] 59) := ⟨_, rfl⟩
  have hbx : W0.heap[tb]? = some (.cells #[.int .u64 (hi : Int), .int .u64 (lo : Int), .pointer z] 59) := by rw [hW0]; exact hp_alloc_at htb
  have hb : Below w.heap.size w W0 := by rw [hW0]; exact (Below.refl _ _).alloc (Nat.le_refl _) _
  have HH : Hid (Calls Ybad.prog 54 #[.pointer (some ⟨tb, 0, none⟩)] W0 fun e w' => e = .returned (.agg #[.pointer (some ⟨tb, 0, none⟩), .pointer (some ⟨tb, 1, none⟩)]) ∧ (Below W0.heap.size W0 w' ∧ w'.cell? ⟨tb, 1, none⟩ = some (.int .u64 (lo : Int)))) :=
    (halves tb W0).mono fun e w' hh => ⟨hh.1, hh.2, cell_at ((hh.2.block tb (lt_of_block hbx)).trans hbx) rfl⟩
  have HB := hide hb
  have HW0 := hide hW0
  have HTB := hide htb
  have HR := hide hr
  clear hb hW0 htb hbx hr
  go_enter Ybad.func49, Ybad.ntmps49
  go_upto_region 1 with fail
  rw [← HTB.out, ← HW0.out]
  have kx := idx94_1
  go_wp2_with (go_at_call 54; refine HH.out.mono ?_; rintro e W1 ⟨rfl, hh, c0⟩; have H1 := hide hh; clear hh)
  go_ret
  exact ⟨r, rfl, hr16, HB.out.trans (Below.mono H1.out HB.out.size)⟩

set_option maxRecDepth 100000 in
theorem v6_7 (hi lo : Nat) (z : Option Addr) (w : World) (h1 : hi < 18446744073709551616) (h2 : lo < 18446744073709551616) : Calls Ybad.prog 49 #[adr hi lo z, .int .u8 7] w fun e w' => ∃ x : Nat, e = .returned (.int .u16 (x : Int)) ∧ x < 65536 ∧ Below w.heap.size w w' := by
  obtain ⟨r, hr⟩ : ∃ r, r = lo % 65536 := ⟨_, rfl⟩
  have hw : IntKind.u16.wrap ((lo : Int)) = (r : Int) := by simp [IntKind.wrap, IntKind.bits, IntKind.signed]; omega
  have hr16 : r < 65536 := by omega
  obtain ⟨tb, htb⟩ : ∃ tb, tb = w.heap.size := ⟨_, rfl⟩
  obtain ⟨W0, hW0⟩ : ∃ W0, W0 = w.alloc (.cells #[.int .u64 (hi : Int), .int .u64 (lo : Int), .pointer z] 59) := ⟨_, rfl⟩
  have hbx : W0.heap[tb]? = some (.cells #[.int .u64 (hi : Int), .int .u64 (lo : Int), .pointer z] 59) := by rw [hW0]; exact hp_alloc_at htb
  have hb : Below w.heap.size w W0 := by rw [hW0]; exact (Below.refl _ _).alloc (Nat.le_refl _) _
  have HH : Hid (Calls Ybad.prog 54 #[.pointer (some ⟨tb, 0, none⟩)] W0 fun e w' => e = .returned (.agg #[.pointer (some ⟨tb, 0, none⟩), .pointer (some ⟨tb, 1, none⟩)]) ∧ (Below W0.heap.size W0 w' ∧ w'.cell? ⟨tb, 1, none⟩ = some (.int .u64 (lo : Int)))) :=
    (halves tb W0).mono fun e w' hh => ⟨hh.1, hh.2, cell_at ((hh.2.block tb (lt_of_block hbx)).trans hbx) rfl⟩
  have HB := hide hb
  have HW0 := hide hW0
  have HTB := hide htb
  have HR := hide hr
  clear hb hW0 htb hbx hr
  go_enter Ybad.func49, Ybad.ntmps49
  go_upto_region 1 with fail
  rw [← HTB.out, ← HW0.out]
  have kx := idx94_1
  go_wp2_with (go_at_call 54; refine HH.out.mono ?_; rintro e W1 ⟨rfl, hh, c0⟩; have H1 := hide hh; clear hh)
  go_ret
  exact ⟨r, rfl, hr16, HB.out.trans (Below.mono H1.out HB.out.size)⟩

theorem v6_any (hi lo i : Nat) (z : Option Addr) (w : World) (h1 : hi < 18446744073709551616) (h2 : lo < 18446744073709551616) (h8 : i < 8) : Calls Ybad.prog 49 #[adr hi lo z, .int .u8 i] w fun e w' => ∃ x : Nat, e = .returned (.int .u16 (x : Int)) ∧ x < 65536 ∧ Below w.heap.size w w' :=
  match i, h8 with
  | 0, _ => v6_0 hi lo z w h1 h2
  | 1, _ => v6_1 hi lo z w h1 h2
  | 2, _ => v6_2 hi lo z w h1 h2
  | 3, _ => v6_3 hi lo z w h1 h2
  | 4, _ => v6_4 hi lo z w h1 h2
  | 5, _ => v6_5 hi lo z w h1 h2
  | 6, _ => v6_6 hi lo z w h1 h2
  | 7, _ => v6_7 hi lo z w h1 h2
  | n + 8, h => absurd h (by omega)
end Go.Proofs.YbulkdphmDoor
