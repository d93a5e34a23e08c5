/-
  Addresses of sixteen bytes.
-/
import Derived.Test.YbulkdphmDoorRows
import Derived.WalkKit
import Derived.ProofKit
import Derived.OpenShut
import Derived.WalkLawsBesides
import Derived.BigQuiet
import Derived.Laws.BitsAllLaws
import Derived.Laws.StructEq
import Derived.Outline
import Derived.Test.YbulkdphmDoorIp10
import Derived.Test.YbulkdphmDoorRes
import Derived.Deep.RegionWith
import Derived.Deep.RegionHeld3
import Derived.Deep.DeepCutAuto
import Derived.Deep.DrawnRows
import Derived.Handy
import Derived.Laws.ResultCell
namespace Go.Proofs.YbulkdphmDoor
open Go.ChangeShapes Go.WideShapes Go.ChangeAt Go.RowKit
open Go.ChangeMaps (setBlock)
set_option linter.unusedVariables false
set_option linter.unusedSimpArgs false

open Go.Lib (byteCells decDigits)

set_option maxRecDepth 100000 in
set_option maxHeartbeats 1600000 in
theorem string_z6m (hi lo : Nat) (h46 : ((hi == 0) && (lo / 4294967296 == 65535)) = true) (hhi : hi < 18446744073709551616) (hlo : lo < 18446744073709551616) (w : World) (a4 a6 : Addr) (Z : Zs w a4 a6) : Calls Ybad.prog 25 #[adr hi lo (some a6)] w fun e w' => ∃ t : ByteArray, e = .returned (.string t) ∧ Below w.heap.size w w' := by
  obtain ⟨tb, htb⟩ : ∃ tb, tb = w.heap.size := ⟨_, rfl⟩
  obtain ⟨W0, hW0⟩ : ∃ W0, W0 = w.alloc (.cells #[.int .u64 (hi : Int), .int .u64 (lo : Int), .pointer (some a6)] 59) := ⟨_, rfl⟩
  have hbx : W0.heap[tb]? = some (.cells #[.int .u64 (hi : Int), .int .u64 (lo : Int), .pointer (some a6)] 59) := by rw [hW0]; exact hp_alloc_at htb
  have hb : Below w.heap.size w W0 := by rw [hW0]; exact (Below.refl _ _).alloc (Nat.le_refl _) _
  have HV := hide (isValid_some hi lo a6 W0 a4 a6 (Z.on hb))
  have HZ := hide Z
  have HB := hide hb
  have HW0 := hide hW0
  have HBX := hide hbx
  have HTB := hide htb
  have H46 := hide h46
  obtain ⟨i0, hif, hz0, hz1, hz2⟩ := info_parts info5
  clear hb Z hW0 hbx htb h46
  go_enter Ybad.func25, Ybad.ntmps25
  go_upto_region 1 with fail
  rw [← HTB.out, ← HW0.out]
  have c0 : W0.cell? ⟨tb, 0, none⟩ = some (.int .u64 (hi : Int)) := cell_at HBX.out rfl
  have c1 : W0.cell? ⟨tb, 1, none⟩ = some (.int .u64 (lo : Int)) := cell_at HBX.out rfl
  have c2 : W0.cell? ⟨tb, 2, none⟩ = some (.pointer (some a6)) := cell_at HBX.out rfl
  go_upto_region 6 with (go_at_call 33; refine HV.out.mono ?_; rintro e W1 ⟨rfl, hh⟩; have H1 := hide hh; clear hh)
  have hb1 : Below w.heap.size w W1 := HB.out.trans (Below.mono H1.out HB.out.size)
  have hbx1 := (H1.out.block tb (lt_of_block HBX.out)).trans HBX.out
  have d0 : W1.cell? ⟨tb, 0, none⟩ = some (.int .u64 (hi : Int)) := cell_at hbx1 rfl
  have d1 : W1.cell? ⟨tb, 1, none⟩ = some (.int .u64 (lo : Int)) := cell_at hbx1 rfl
  have d2 : W1.cell? ⟨tb, 2, none⟩ = some (.pointer (some a6)) := cell_at hbx1 rfl
  have Z1 := HZ.out.on hb1
  have z4 := Z1.z4
  have k : (Op.equalIn 9999 55 (.pointer (some a6)) (.pointer (some a4))).run Ybad.prog W1 = .ok false W1 := eqP_ne 9998 _ _ _ (same_ne a6 a4 _ (fun e => Z1.ne e.symm) Z1.b6 Z1.b4)
  have hI := is4in6 hi lo W1 a4 a6 Z1
  rw [H46.out] at hI
  have HI := hide hI
  have HX1 := hide hbx1
  have HB1 := hide hb1
  clear c0 c1 c2 hbx1 hb1 Z1 hI
  go_upto_region 10 with (go_at_call 35; refine HI.out.mono ?_; rintro e W1b ⟨rfl, hh⟩; have H1b := hide hh; clear hh)
  have hb1b : Below w.heap.size w W1b := HB1.out.trans (Below.mono H1b.out HB1.out.size)
  have hbx1b := (H1b.out.block tb (lt_of_block HX1.out)).trans HX1.out
  have HX1b := hide hbx1b
  have HB1b := hide hb1b
  clear d0 d1 d2 z4 k hbx1b hb1b
  go_upto_region 11 with (refine wpList_make_own _ rfl _ _ 22 rfl w.heap.size 5 i0 (.int .u8 0) 1 Ybad.underlying22 hif hz0 hz1 .i64 .i64 _ 29 rfl rfl (by omega) (by rw [hz2]; omega) (by unfold maxLen; omega) HB1b.out.size ?_; intro W2 hown2 hg2)
  have hsz1 : w.heap.size ≤ W1b.heap.size := HB1b.out.size
  have hb2 : Below W1b.heap.size W1b W2 := (Below.refl _ W1b).grown hg2 (Nat.le_refl _) (fun k hk => by cases hk)
  have hbx2 := (hb2.block tb (lt_of_block HX1b.out)).trans HX1b.out
  have e0 : W2.cell? ⟨tb, 0, none⟩ = some (.int .u64 (hi : Int)) := cell_at hbx2 rfl
  have e1 : W2.cell? ⟨tb, 1, none⟩ = some (.int .u64 (lo : Int)) := cell_at hbx2 rfl
  have e2 : W2.cell? ⟨tb, 2, none⟩ = some (.pointer (some a6)) := cell_at hbx2 rfl
  obtain ⟨g2, hgg⟩ : ∃ g, g = W1b.heap.size := ⟨_, rfl⟩
  rw [← hgg] at hown2
  rw [← hgg]
  have hbw2 : Below w.heap.size w W2 := HB1b.out.trans (Below.mono hb2 hsz1)
  have hZB : ∀ w', Below w.heap.size W2 w' → Zs w' a4 a6 := fun w' hw' => HZ.out.on (hbw2.trans hw')
  have H4 := hide (to4in6 w.heap.size hi lo H46.out hlo (.slice (some ⟨g2, 0, none⟩) 0 29) W2 a4 a6 (hZB W2 (Below.refl _ _)) hown2 (Nat.le_trans hsz1 hb2.size) (hide hZB))
  have HB2 := hide hbw2
  clear hown2 hg2 hb2 hbx2 hgg hbw2 hZB
  go_upto_region 12 with (go_at_call 36; refine H4.out.mono ?_; rintro e W3 ⟨v3, rfl, l3, hh⟩; have H3 := hide hh; clear hh)
  have hcv := own_string w.heap.size v3 l3 W3 H3.out.2.1 H3.out.1
  go_wp2_with fail
  go_ret
  exact ⟨_, rfl, HB2.out.trans H3.out.2.2.1⟩

set_option maxRecDepth 100000 in
set_option maxHeartbeats 1600000 in
theorem string_z6s (hi lo : Nat) (h46 : ((hi == 0) && (lo / 4294967296 == 65535)) = false) (hhi : hi < 18446744073709551616) (hlo : lo < 18446744073709551616) (w : World) (a4 a6 : Addr) (Z : Zs w a4 a6) : Calls Ybad.prog 25 #[adr hi lo (some a6)] w fun e w' => ∃ t : ByteArray, e = .returned (.string t) ∧ Below w.heap.size w w' := by
  obtain ⟨tb, htb⟩ : ∃ tb, tb = w.heap.size := ⟨_, rfl⟩
  obtain ⟨W0, hW0⟩ : ∃ W0, W0 = w.alloc (.cells #[.int .u64 (hi : Int), .int .u64 (lo : Int), .pointer (some a6)] 59) := ⟨_, rfl⟩
  have hbx : W0.heap[tb]? = some (.cells #[.int .u64 (hi : Int), .int .u64 (lo : Int), .pointer (some a6)] 59) := by rw [hW0]; exact hp_alloc_at htb
  have hb : Below w.heap.size w W0 := by rw [hW0]; exact (Below.refl _ _).alloc (Nat.le_refl _) _
  have HV := hide (isValid_some hi lo a6 W0 a4 a6 (Z.on hb))
  have HZ := hide Z
  have HB := hide hb
  have HW0 := hide hW0
  have HBX := hide hbx
  have HTB := hide htb
  have H46 := hide h46
  obtain ⟨i0, hif, hz0, hz1, hz2⟩ := info_parts info5
  clear hb Z hW0 hbx htb h46
  go_enter Ybad.func25, Ybad.ntmps25
  go_upto_region 1 with fail
  rw [← HTB.out, ← HW0.out]
  have c0 : W0.cell? ⟨tb, 0, none⟩ = some (.int .u64 (hi : Int)) := cell_at HBX.out rfl
  have c1 : W0.cell? ⟨tb, 1, none⟩ = some (.int .u64 (lo : Int)) := cell_at HBX.out rfl
  have c2 : W0.cell? ⟨tb, 2, none⟩ = some (.pointer (some a6)) := cell_at HBX.out rfl
  go_upto_region 6 with (go_at_call 33; refine HV.out.mono ?_; rintro e W1 ⟨rfl, hh⟩; have H1 := hide hh; clear hh)
  have hb1 : Below w.heap.size w W1 := HB.out.trans (Below.mono H1.out HB.out.size)
  have hbx1 := (H1.out.block tb (lt_of_block HBX.out)).trans HBX.out
  have d0 : W1.cell? ⟨tb, 0, none⟩ = some (.int .u64 (hi : Int)) := cell_at hbx1 rfl
  have d1 : W1.cell? ⟨tb, 1, none⟩ = some (.int .u64 (lo : Int)) := cell_at hbx1 rfl
  have d2 : W1.cell? ⟨tb, 2, none⟩ = some (.pointer (some a6)) := cell_at hbx1 rfl
  have Z1 := HZ.out.on hb1
  have z4 := Z1.z4
  have k : (Op.equalIn 9999 55 (.pointer (some a6)) (.pointer (some a4))).run Ybad.prog W1 = .ok false W1 := eqP_ne 9998 _ _ _ (same_ne a6 a4 _ (fun e => Z1.ne e.symm) Z1.b6 Z1.b4)
  have hI := is4in6 hi lo W1 a4 a6 Z1
  rw [H46.out] at hI
  have HI := hide hI
  have HX1 := hide hbx1
  have HB1 := hide hb1
  clear c0 c1 c2 hbx1 hb1 Z1 hI
  go_upto_region 4 with (go_at_call 35; refine HI.out.mono ?_; rintro e W1b ⟨rfl, hh⟩; have H1b := hide hh; clear hh)
  have hb1b : Below w.heap.size w W1b := HB1.out.trans (Below.mono H1b.out HB1.out.size)
  have hbx1b := (H1b.out.block tb (lt_of_block HX1.out)).trans HX1.out
  have HX1b := hide hbx1b
  have HB1b := hide hb1b
  clear d0 d1 d2 z4 k hbx1b hb1b
  go_upto_region 5 with (refine wpList_make_own _ rfl _ _ 22 rfl w.heap.size 5 i0 (.int .u8 0) 1 Ybad.underlying22 hif hz0 hz1 .i64 .i64 _ 46 rfl rfl (by omega) (by rw [hz2]; omega) (by unfold maxLen; omega) HB1b.out.size ?_; intro W2 hown2 hg2)
  have hsz1 : w.heap.size ≤ W1b.heap.size := HB1b.out.size
  have hb2 : Below W1b.heap.size W1b W2 := (Below.refl _ W1b).grown hg2 (Nat.le_refl _) (fun k hk => by cases hk)
  have hbx2 := (hb2.block tb (lt_of_block HX1b.out)).trans HX1b.out
  have e0 : W2.cell? ⟨tb, 0, none⟩ = some (.int .u64 (hi : Int)) := cell_at hbx2 rfl
  have e1 : W2.cell? ⟨tb, 1, none⟩ = some (.int .u64 (lo : Int)) := cell_at hbx2 rfl
  have e2 : W2.cell? ⟨tb, 2, none⟩ = some (.pointer (some a6)) := cell_at hbx2 rfl
  obtain ⟨g2, hgg⟩ : ∃ g, g = W1b.heap.size := ⟨_, rfl⟩
  rw [← hgg] at hown2
  rw [← hgg]
  have hbw2 : Below w.heap.size w W2 := HB1b.out.trans (Below.mono hb2 hsz1)
  have hZB : ∀ w', Below w.heap.size W2 w' → Zs w' a4 a6 := fun w' hw' => HZ.out.on (hbw2.trans hw')
  have H4 := hide (to6 w.heap.size hi lo hhi hlo (.slice (some ⟨g2, 0, none⟩) 0 46) W2 a4 a6 hown2 (Nat.le_trans hsz1 hb2.size) (hide hZB))
  have HB2 := hide hbw2
  clear hown2 hg2 hb2 hbx2 hgg hbw2 hZB
  go_upto_region 12 with (go_at_call 37; refine H4.out.mono ?_; rintro e W3 ⟨v3, rfl, l3, hh⟩; have H3 := hide hh; clear hh)
  have hcv := own_string w.heap.size v3 l3 W3 H3.out.2.1 H3.out.1
  go_wp2_with fail
  go_ret
  exact ⟨_, rfl, HB2.out.trans H3.out.2.2.1⟩

theorem string_z6 (hi lo : Nat) (hhi : hi < 18446744073709551616) (hlo : lo < 18446744073709551616) (w : World) (a4 a6 : Addr) (Z : Zs w a4 a6) : Calls Ybad.prog 25 #[adr hi lo (some a6)] w fun e w' => ∃ t : ByteArray, e = .returned (.string t) ∧ Below w.heap.size w w' := by
  cases h : ((hi == 0) && (lo / 4294967296 == 65535)) with
  | true => exact string_z6m hi lo h hhi hlo w a4 a6 Z
  | false => exact string_z6s hi lo h hhi hlo w a4 a6 Z

theorem arr16 (b off n c : Nat) (h : 16 ≤ n) (W : World) : (Instr.arrayAt 73 (.slice (some ⟨b, off, none⟩) n c)).run Ybad.prog W = .ok (.pointer (some ⟨b, off, none⟩)) W := by
  have h1 : ¬ n < 16 := by omega
  simp [Instr.arrayAt, run_underlying Ybad.underlying73, h1]

set_option maxRecDepth 100000 in
set_option maxHeartbeats 1600000 in
/-- netip.AddrFromSlice of sixteen bytes. -/
theorem fromSlice16 (b off c : Nat) (xs : List Int) (w : World) (a4 a6 : Addr) (Z : Zs w a4 a6) (h : Bytes w b off 16 xs) :
    Calls Ybad.prog 24 #[.slice (some ⟨b, off, none⟩) 16 c] w fun e w' => ∃ hi lo : Nat, e = .returned (.tuple #[adr hi lo (some a6), .bool true]) ∧ hi < 18446744073709551616 ∧ lo < 18446744073709551616 ∧ Below w.heap.size w w' := by
  have hb : Below w.heap.size w (w.alloc (.cells #[.int .u64 0, .int .u64 0, .pointer none] 59)) := (Below.refl _ _).alloc (Nat.le_refl _) _
  have hlt := h.lt (by omega)
  obtain ⟨x0, e0⟩ : ∃ x, x = xs.getD 0 0 := ⟨_, rfl⟩
  have g0 : w.cell? ⟨b, off, none⟩ = some (.int .u8 x0) := by rw [e0]; exact h.cell 0 (by omega)
  obtain ⟨x1, e1⟩ : ∃ x, x = xs.getD 1 0 := ⟨_, rfl⟩
  have g1 : w.cell? ⟨b, off + 1, none⟩ = some (.int .u8 x1) := by rw [e1]; exact h.cell 1 (by omega)
  obtain ⟨x2, e2⟩ : ∃ x, x = xs.getD 2 0 := ⟨_, rfl⟩
  have g2 : w.cell? ⟨b, off + 2, none⟩ = some (.int .u8 x2) := by rw [e2]; exact h.cell 2 (by omega)
  obtain ⟨x3, e3⟩ : ∃ x, x = xs.getD 3 0 := ⟨_, rfl⟩
  have g3 : w.cell? ⟨b, off + 3, none⟩ = some (.int .u8 x3) := by rw [e3]; exact h.cell 3 (by omega)
  obtain ⟨x4, e4⟩ : ∃ x, x = xs.getD 4 0 := ⟨_, rfl⟩
  have g4 : w.cell? ⟨b, off + 4, none⟩ = some (.int .u8 x4) := by rw [e4]; exact h.cell 4 (by omega)
  obtain ⟨x5, e5⟩ : ∃ x, x = xs.getD 5 0 := ⟨_, rfl⟩
  have g5 : w.cell? ⟨b, off + 5, none⟩ = some (.int .u8 x5) := by rw [e5]; exact h.cell 5 (by omega)
  obtain ⟨x6, e6⟩ : ∃ x, x = xs.getD 6 0 := ⟨_, rfl⟩
  have g6 : w.cell? ⟨b, off + 6, none⟩ = some (.int .u8 x6) := by rw [e6]; exact h.cell 6 (by omega)
  obtain ⟨x7, e7⟩ : ∃ x, x = xs.getD 7 0 := ⟨_, rfl⟩
  have g7 : w.cell? ⟨b, off + 7, none⟩ = some (.int .u8 x7) := by rw [e7]; exact h.cell 7 (by omega)
  obtain ⟨x8, e8⟩ : ∃ x, x = xs.getD 8 0 := ⟨_, rfl⟩
  have g8 : w.cell? ⟨b, off + 8, none⟩ = some (.int .u8 x8) := by rw [e8]; exact h.cell 8 (by omega)
  obtain ⟨x9, e9⟩ : ∃ x, x = xs.getD 9 0 := ⟨_, rfl⟩
  have g9 : w.cell? ⟨b, off + 9, none⟩ = some (.int .u8 x9) := by rw [e9]; exact h.cell 9 (by omega)
  obtain ⟨x10, e10⟩ : ∃ x, x = xs.getD 10 0 := ⟨_, rfl⟩
  have g10 : w.cell? ⟨b, off + 10, none⟩ = some (.int .u8 x10) := by rw [e10]; exact h.cell 10 (by omega)
  obtain ⟨x11, e11⟩ : ∃ x, x = xs.getD 11 0 := ⟨_, rfl⟩
  have g11 : w.cell? ⟨b, off + 11, none⟩ = some (.int .u8 x11) := by rw [e11]; exact h.cell 11 (by omega)
  obtain ⟨x12, e12⟩ : ∃ x, x = xs.getD 12 0 := ⟨_, rfl⟩
  have g12 : w.cell? ⟨b, off + 12, none⟩ = some (.int .u8 x12) := by rw [e12]; exact h.cell 12 (by omega)
  obtain ⟨x13, e13⟩ : ∃ x, x = xs.getD 13 0 := ⟨_, rfl⟩
  have g13 : w.cell? ⟨b, off + 13, none⟩ = some (.int .u8 x13) := by rw [e13]; exact h.cell 13 (by omega)
  obtain ⟨x14, e14⟩ : ∃ x, x = xs.getD 14 0 := ⟨_, rfl⟩
  have g14 : w.cell? ⟨b, off + 14, none⟩ = some (.int .u8 x14) := by rw [e14]; exact h.cell 14 (by omega)
  obtain ⟨x15, e15⟩ : ∃ x, x = xs.getD 15 0 := ⟨_, rfl⟩
  have g15 : w.cell? ⟨b, off + 15, none⟩ = some (.int .u8 x15) := by rw [e15]; exact h.cell 15 (by omega)
  have hall : ∀ x ∈ [x0, x1, x2, x3, x4, x5, x6, x7, x8, x9, x10, x11, x12, x13, x14, x15], 0 ≤ x ∧ x < 256 := by
    intro x hx
    simp only [List.mem_cons, List.not_mem_nil, or_false] at hx
    rcases hx with rfl | rfl | rfl | rfl | rfl | rfl | rfl | rfl | rfl | rfl | rfl | rfl | rfl | rfl | rfl | rfl
    · rw [e0]; exact h.at (i := 0) (by omega)
    · rw [e1]; exact h.at (i := 1) (by omega)
    · rw [e2]; exact h.at (i := 2) (by omega)
    · rw [e3]; exact h.at (i := 3) (by omega)
    · rw [e4]; exact h.at (i := 4) (by omega)
    · rw [e5]; exact h.at (i := 5) (by omega)
    · rw [e6]; exact h.at (i := 6) (by omega)
    · rw [e7]; exact h.at (i := 7) (by omega)
    · rw [e8]; exact h.at (i := 8) (by omega)
    · rw [e9]; exact h.at (i := 9) (by omega)
    · rw [e10]; exact h.at (i := 10) (by omega)
    · rw [e11]; exact h.at (i := 11) (by omega)
    · rw [e12]; exact h.at (i := 12) (by omega)
    · rw [e13]; exact h.at (i := 13) (by omega)
    · rw [e14]; exact h.at (i := 14) (by omega)
    · rw [e15]; exact h.at (i := 15) (by omega)
  have HF := hide (from16 x0 x1 x2 x3 x4 x5 x6 x7 x8 x9 x10 x11 x12 x13 x14 x15 hall _ a4 a6 (Z.on hb))
  have HB := hide hb
  clear hb Z h hall e0 e1 e2 e3 e4 e5 e6 e7 e8 e9 e10 e11 e12 e13 e14 e15
  go_enter Ybad.func24, Ybad.ntmps24
  go_upto_region 5 with fail
  obtain ⟨rb, hrb⟩ : ∃ rb, rb = w.heap.size := ⟨_, rfl⟩
  obtain ⟨W0, hW0⟩ : ∃ W0, W0 = w.alloc (.cells #[.int .u64 0, .int .u64 0, .pointer none] 59) := ⟨_, rfl⟩
  rw [← hW0] at HF HB ⊢
  rw [← hrb]
  have hrk : W0.heap[rb]? = some (.cells #[.int .u64 0, .int .u64 0, .pointer none] 59) := by rw [hW0]; exact hp_alloc_at hrb
  have f0 := (HB.out.cell (p := ⟨b, off, none⟩) hlt).trans g0
  have f1 := (HB.out.cell (p := ⟨b, off + 1, none⟩) hlt).trans g1
  have f2 := (HB.out.cell (p := ⟨b, off + 2, none⟩) hlt).trans g2
  have f3 := (HB.out.cell (p := ⟨b, off + 3, none⟩) hlt).trans g3
  have f4 := (HB.out.cell (p := ⟨b, off + 4, none⟩) hlt).trans g4
  have f5 := (HB.out.cell (p := ⟨b, off + 5, none⟩) hlt).trans g5
  have f6 := (HB.out.cell (p := ⟨b, off + 6, none⟩) hlt).trans g6
  have f7 := (HB.out.cell (p := ⟨b, off + 7, none⟩) hlt).trans g7
  have f8 := (HB.out.cell (p := ⟨b, off + 8, none⟩) hlt).trans g8
  have f9 := (HB.out.cell (p := ⟨b, off + 9, none⟩) hlt).trans g9
  have f10 := (HB.out.cell (p := ⟨b, off + 10, none⟩) hlt).trans g10
  have f11 := (HB.out.cell (p := ⟨b, off + 11, none⟩) hlt).trans g11
  have f12 := (HB.out.cell (p := ⟨b, off + 12, none⟩) hlt).trans g12
  have f13 := (HB.out.cell (p := ⟨b, off + 13, none⟩) hlt).trans g13
  have f14 := (HB.out.cell (p := ⟨b, off + 14, none⟩) hlt).trans g14
  have f15 := (HB.out.cell (p := ⟨b, off + 15, none⟩) hlt).trans g15
  have harr := arr16 b off 16 c (Nat.le_refl _)
  have HRB := hide hrb
  have HRK := hide hrk
  clear hW0 g0 g1 g2 g3 g4 g5 g6 g7 g8 g9 g10 g11 g12 g13 g14 g15 hrb hrk
  have HF2 : Hid (Calls Ybad.prog 32 #[.agg #[.int .u8 x0, .int .u8 x1, .int .u8 x2, .int .u8 x3, .int .u8 x4, .int .u8 x5, .int .u8 x6, .int .u8 x7, .int .u8 x8, .int .u8 x9, .int .u8 x10, .int .u8 x11, .int .u8 x12, .int .u8 x13, .int .u8 x14, .int .u8 x15]] W0 fun e w' => ∃ hi lo : Nat, e = .returned (adr hi lo (some a6)) ∧ (hi < 18446744073709551616 ∧ lo < 18446744073709551616 ∧ Below W0.heap.size W0 w') ∧ w'.cell? ⟨rb, 0, none⟩ = some (.int .u64 0) ∧ w'.cell? ⟨rb, 1, none⟩ = some (.int .u64 0) ∧ w'.cell? ⟨rb, 2, none⟩ = some (.pointer none) ∧ w'.frozen? ⟨rb, 0, none⟩ = false ∧ w'.frozen? ⟨rb, 1, none⟩ = false ∧ w'.frozen? ⟨rb, 2, none⟩ = false) := by
    refine HF.out.mono ?_
    rintro e w' ⟨hi, lo, he, h1, h2, h3⟩
    have hk := (h3.block rb (lt_of_block HRK.out)).trans HRK.out
    exact ⟨hi, lo, he, ⟨h1, h2, h3⟩, cell_at hk rfl, cell_at hk rfl, cell_at hk rfl, frozen_at hk, frozen_at hk, frozen_at hk⟩
  go_wp2_with (go_at_call 32; refine HF2.out.mono ?_; rintro e W1 ⟨hi, lo, rfl, hh, r0, r1, r2, y0, y1, y2⟩; have H1 := hide hh; clear hh)
  obtain ⟨W2, hW2⟩ : ∃ W2, W2 = ((W1.setCell ⟨rb, 0, none⟩ (.int .u64 (hi : Int))).setCell ⟨rb, 1, none⟩ (.int .u64 (lo : Int))).setCell ⟨rb, 2, none⟩ (.pointer (some a6)) := ⟨_, rfl⟩
  rw [← hW2]
  have hk1 := (H1.out.2.2.block rb (lt_of_block HRK.out)).trans HRK.out
  have hk2 : W2.heap[rb]? = some (.cells #[.int .u64 (hi : Int), .int .u64 (lo : Int), .pointer (some a6)] 59) := by
    rw [hW2, hp_setCell_eq (hp_setCell_eq (hp_setCell_eq hk1))]
    rfl
  try simp only [Exit.inBlock, Exit.then]
  refine bodyPost_ret (res_two rfl _ _ ⟨rb, 0, none⟩ _ rfl (load59 rb _ _ _ W2 (cell_at hk2 rfl) (cell_at hk2 rfl) (cell_at hk2 rfl))) rfl ?_
  refine ⟨hi, lo, rfl, H1.out.1, H1.out.2.1, ?_⟩
  have hb1 : Below w.heap.size w W1 := HB.out.trans (Below.mono H1.out.2.2 HB.out.size)
  have hr := HRB.out
  rw [hW2]
  exact Below.setCell (Below.setCell (Below.setCell hb1 (by simp; omega) _) (by simp; omega) _) (by simp; omega) _
end Go.Proofs.YbulkdphmDoor
