/-
  Addresses of four bytes.
-/
import Derived.Test.YbulkdphmDoorRows
import Derived.WalkKit
import Derived.ProofKit
import Derived.OpenShut
import Derived.WalkLawsBesides
import Derived.BigQuiet
import Derived.Laws.BitsAllLaws
import Derived.Laws.StructEq
import Derived.Outline
import Derived.Test.YbulkdphmDoorIp3
import Derived.Test.YbulkdphmDoorRes
import Derived.Deep.RegionWith
import Derived.Deep.RegionHeld3
import Derived.Deep.DeepCutAuto
import Derived.Deep.DrawnRows
import Derived.Handy
import Derived.Laws.ResultCell
namespace Go.Proofs.YbulkdphmDoor
open Go.ChangeShapes Go.WideShapes Go.ChangeAt Go.RowKit
open Go.ChangeMaps (setBlock)
set_option linter.unusedVariables false
set_option linter.unusedSimpArgs false

open Go.Lib (byteCells decDigits)
set_option maxRecDepth 100000 in
/-- Addr.String of the zero address. -/
theorem string_z0 (hi lo : Nat) (w : World) (a4 a6 : Addr) (Z : Zs w a4 a6) : Calls Ybad.prog 25 #[adr hi lo none] w fun e w' => e = .returned (.string ⟨#[105, 110, 118, 97, 108, 105, 100, 32, 73, 80]⟩) ∧ Below w.heap.size w w' := by
  have hb : Below w.heap.size w (w.alloc (.cells #[.int .u64 (hi : Int), .int .u64 (lo : Int), .pointer none] 59)) := (Below.refl _ _).alloc (Nat.le_refl _) _
  have HV := hide (isValid_z0 hi lo _ a4 a6 (Z.on hb))
  have HB := hide hb
  clear hb Z
  go_enter Ybad.func25, Ybad.ntmps25
  go_wp2_with (go_at_call 33; refine HV.out.mono ?_; rintro e w1 ⟨rfl, hh⟩; have H1 := hide hh; clear hh)
  go_ret
  exact ⟨rfl, HB.out.trans (Below.mono H1.out HB.out.size)⟩

theorem txt4_pos (lo : Nat) : 0 < (txt4 lo).length := by unfold txt4; simp only [List.length_append, List.length_cons, List.length_nil]; omega

set_option maxRecDepth 100000 in
set_option maxHeartbeats 1600000 in
/-- Addr.String of an IPv4 address. -/
theorem string_z4 (hi lo : Nat) (hlo : lo < 18446744073709551616) (w : World) (a4 a6 : Addr) (Z : Zs w a4 a6) : Calls Ybad.prog 25 #[adr hi lo (some a4)] w fun e w' => e = .returned (.string ⟨(txt4 lo).toArray⟩) ∧ Below w.heap.size w w' := by
  obtain ⟨T, hT⟩ : ∃ T, T = txt4 lo := ⟨_, rfl⟩
  rw [← hT]
  have HT := hide hT
  obtain ⟨tb, htb⟩ : ∃ tb, tb = w.heap.size := ⟨_, rfl⟩
  obtain ⟨W0, hW0⟩ : ∃ W0, W0 = w.alloc (.cells #[.int .u64 (hi : Int), .int .u64 (lo : Int), .pointer (some a4)] 59) := ⟨_, rfl⟩
  have hbx : W0.heap[tb]? = some (.cells #[.int .u64 (hi : Int), .int .u64 (lo : Int), .pointer (some a4)] 59) := by rw [hW0]; exact hp_alloc_at htb
  have hb : Below w.heap.size w W0 := by rw [hW0]; exact (Below.refl _ _).alloc (Nat.le_refl _) _
  have HV := hide (isValid_some hi lo a4 W0 a4 a6 (Z.on hb))
  have HZ := hide (Z.on hb)
  have HB := hide hb
  have HW0 := hide hW0
  have HBX := hide hbx
  have HTB := hide htb
  obtain ⟨i0, hif, hz0, hz1, hz2⟩ := info_parts info5
  clear hb Z hT hW0 hbx htb
  go_enter Ybad.func25, Ybad.ntmps25
  go_upto_region 1 with fail
  rw [← HTB.out, ← HW0.out]
  have c0 : W0.cell? ⟨tb, 0, none⟩ = some (.int .u64 (hi : Int)) := cell_at HBX.out rfl
  have c1 : W0.cell? ⟨tb, 1, none⟩ = some (.int .u64 (lo : Int)) := cell_at HBX.out rfl
  have c2 : W0.cell? ⟨tb, 2, none⟩ = some (.pointer (some a4)) := cell_at HBX.out rfl
  go_upto_region 6 with (go_at_call 33; refine HV.out.mono ?_; rintro e W1 ⟨rfl, hh⟩; have H1 := hide hh; clear hh)
  have hbx1 := (H1.out.block tb (lt_of_block HBX.out)).trans HBX.out
  have d0 : W1.cell? ⟨tb, 0, none⟩ = some (.int .u64 (hi : Int)) := cell_at hbx1 rfl
  have d1 : W1.cell? ⟨tb, 1, none⟩ = some (.int .u64 (lo : Int)) := cell_at hbx1 rfl
  have d2 : W1.cell? ⟨tb, 2, none⟩ = some (.pointer (some a4)) := cell_at hbx1 rfl
  have z4 := (HZ.out.on H1.out).z4
  have k : (Op.equalIn 9999 55 (.pointer (some a4)) (.pointer (some a4))).run Ybad.prog W1 = .ok true W1 := eqP_same 9998 _ _
  have HX1 := hide hbx1
  clear c0 c1 c2 hbx1
  go_upto_region 8 with (refine wpList_make_own _ rfl _ _ 22 rfl w.heap.size 5 i0 (.int .u8 0) 1 Ybad.underlying22 hif hz0 hz1 .i64 .i64 _ 15 rfl rfl (by omega) (by rw [hz2]; omega) (by unfold maxLen; omega) (Nat.le_trans HB.out.size H1.out.size) ?_; intro W2 hown2 hg2)
  have hsz1 : w.heap.size ≤ W1.heap.size := Nat.le_trans HB.out.size H1.out.size
  have hb2 : Below W1.heap.size W1 W2 := (Below.refl _ W1).grown hg2 (Nat.le_refl _) (fun k hk => by cases hk)
  have hbx2 := (hb2.block tb (lt_of_block HX1.out)).trans HX1.out
  have e0 : W2.cell? ⟨tb, 0, none⟩ = some (.int .u64 (hi : Int)) := cell_at hbx2 rfl
  have e1 : W2.cell? ⟨tb, 1, none⟩ = some (.int .u64 (lo : Int)) := cell_at hbx2 rfl
  have e2 : W2.cell? ⟨tb, 2, none⟩ = some (.pointer (some a4)) := cell_at hbx2 rfl
  obtain ⟨g2, hgg⟩ : ∃ g, g = W1.heap.size := ⟨_, rfl⟩
  rw [← hgg] at hown2
  rw [← hgg]
  have H4 := hide (to4 w.heap.size hi lo (some a4) (.slice (some ⟨g2, 0, none⟩) 0 15) [] W2 hown2 (Nat.le_trans hsz1 hb2.size) (by simp) hlo)
  rw [List.nil_append, ← HT.out] at H4
  have HB2 : Hid (Below w.heap.size w W2) := HB.out.trans ((Below.mono H1.out HB.out.size).trans (Below.mono hb2 hsz1))
  clear d0 d1 d2 z4 k hown2 hg2 hb2 hbx2 hgg
  go_upto_region 12 with (go_at_call 34; refine H4.out.mono ?_; rintro e W3 ⟨v3, rfl, hh⟩; have H3 := hide hh; clear hh)
  have hcv := own_string w.heap.size v3 T W3 H3.out.1 (by rw [HT.out]; exact txt4_pos lo)
  go_wp2_with fail
  go_ret
  exact ⟨rfl, HB2.out.trans H3.out.2.1⟩

theorem arr4 (b off n c : Nat) (h : 4 ≤ n) (W : World) : (Instr.arrayAt 71 (.slice (some ⟨b, off, none⟩) n c)).run Ybad.prog W = .ok (.pointer (some ⟨b, off, none⟩)) W := by
  have h1 : ¬ n < 4 := by omega
  simp [Instr.arrayAt, run_underlying Ybad.underlying71, h1]

set_option maxRecDepth 100000 in
set_option maxHeartbeats 1600000 in
/-- netip.AddrFromSlice of four bytes. -/
theorem fromSlice4 (b off c : Nat) (xs : List Int) (x0 x1 x2 x3 : Nat) (w : World) (a4 a6 : Addr) (Z : Zs w a4 a6) (h : Bytes w b off 4 xs) (e0 : (x0 : Int) = xs.getD 0 0) (e1 : (x1 : Int) = xs.getD 1 0) (e2 : (x2 : Int) = xs.getD 2 0) (e3 : (x3 : Int) = xs.getD 3 0) :
    Calls Ybad.prog 24 #[.slice (some ⟨b, off, none⟩) 4 c] w fun e w' => e = .returned (.tuple #[adr 0 (lo4 x0 x1 x2 x3) (some a4), .bool true]) ∧ Below w.heap.size w w' := by
  obtain ⟨L, hL⟩ : ∃ L, L = lo4 x0 x1 x2 x3 := ⟨_, rfl⟩
  have hb : Below w.heap.size w (w.alloc (.cells #[.int .u64 0, .int .u64 0, .pointer none] 59)) := (Below.refl _ _).alloc (Nat.le_refl _) _
  have b0 := h.at (i := 0) (by omega)
  have b1 := h.at (i := 1) (by omega)
  have b2 := h.at (i := 2) (by omega)
  have b3 := h.at (i := 3) (by omega)
  have hlt := h.lt (by omega)
  have g0 : w.cell? ⟨b, off, none⟩ = some (.int .u8 (x0 : Int)) := by rw [e0]; exact h.cell 0 (by omega)
  have g1 : w.cell? ⟨b, off + 1, none⟩ = some (.int .u8 (x1 : Int)) := by rw [e1]; exact h.cell 1 (by omega)
  have g2 : w.cell? ⟨b, off + 2, none⟩ = some (.int .u8 (x2 : Int)) := by rw [e2]; exact h.cell 2 (by omega)
  have g3 : w.cell? ⟨b, off + 3, none⟩ = some (.int .u8 (x3 : Int)) := by rw [e3]; exact h.cell 3 (by omega)
  have HF := hide (from4 x0 x1 x2 x3 (by omega) (by omega) (by omega) (by omega) _ a4 a6 (Z.on hb))
  rw [← hL] at HF
  rw [← hL]
  have HB := hide hb
  have hne : b ≠ w.heap.size := by omega
  clear hb Z h e0 e1 e2 e3 b0 b1 b2 b3 hL
  go_enter Ybad.func24, Ybad.ntmps24
  go_upto_region 3 with fail
  obtain ⟨rb, hrb⟩ : ∃ rb, rb = w.heap.size := ⟨_, rfl⟩
  obtain ⟨W0, hW0⟩ : ∃ W0, W0 = w.alloc (.cells #[.int .u64 0, .int .u64 0, .pointer none] 59) := ⟨_, rfl⟩
  rw [← hW0] at HF HB ⊢
  rw [← hrb]
  have hrk : W0.heap[rb]? = some (.cells #[.int .u64 0, .int .u64 0, .pointer none] 59) := by rw [hW0]; exact hp_alloc_at hrb
  have f0 := (HB.out.cell (p := ⟨b, off, none⟩) hlt).trans g0
  have f1 := (HB.out.cell (p := ⟨b, off + 1, none⟩) hlt).trans g1
  have f2 := (HB.out.cell (p := ⟨b, off + 2, none⟩) hlt).trans g2
  have f3 := (HB.out.cell (p := ⟨b, off + 3, none⟩) hlt).trans g3
  have harr := arr4 b off 4 c (Nat.le_refl _)
  have HRB := hide hrb
  have HRK := hide hrk
  clear hW0 g0 g1 g2 g3 hrb hrk hne
  have HF2 : Hid (Calls Ybad.prog 31 #[.agg #[.int .u8 (x0 : Int), .int .u8 (x1 : Int), .int .u8 (x2 : Int), .int .u8 (x3 : Int)]] W0 fun e w' => e = .returned (adr 0 L (some a4)) ∧ (Below W0.heap.size W0 w' ∧ w'.cell? ⟨rb, 0, none⟩ = some (.int .u64 0) ∧ w'.cell? ⟨rb, 1, none⟩ = some (.int .u64 0) ∧ w'.cell? ⟨rb, 2, none⟩ = some (.pointer none) ∧ w'.frozen? ⟨rb, 0, none⟩ = false ∧ w'.frozen? ⟨rb, 1, none⟩ = false ∧ w'.frozen? ⟨rb, 2, none⟩ = false)) :=
    HF.out.mono fun e w' hh => ⟨hh.1, hh.2, (by
      have hk := (hh.2.block rb (lt_of_block HRK.out)).trans HRK.out
      exact ⟨cell_at hk rfl, cell_at hk rfl, cell_at hk rfl, frozen_at hk, frozen_at hk, frozen_at hk⟩)⟩
  go_wp2_with (go_at_call 31; refine HF2.out.mono ?_; rintro e W1 ⟨rfl, hh, r0, r1, r2, y0, y1, y2⟩; have H1 := hide hh; clear hh)
  obtain ⟨W2, hW2⟩ : ∃ W2, W2 = ((W1.setCell ⟨rb, 0, none⟩ (.int .u64 0)).setCell ⟨rb, 1, none⟩ (.int .u64 (L : Int))).setCell ⟨rb, 2, none⟩ (.pointer (some a4)) := ⟨_, rfl⟩
  rw [← hW2]
  have hk1 := (H1.out.block rb (lt_of_block HRK.out)).trans HRK.out
  have hk2 : W2.heap[rb]? = some (.cells #[.int .u64 0, .int .u64 (L : Int), .pointer (some a4)] 59) := by
    rw [hW2, hp_setCell_eq (hp_setCell_eq (hp_setCell_eq hk1))]
    rfl
  refine bodyPost_ret (res_two rfl _ _ ⟨rb, 0, none⟩ _ rfl (load59 rb _ _ _ W2 (cell_at hk2 rfl) (cell_at hk2 rfl) (cell_at hk2 rfl))) rfl ?_
  refine ⟨rfl, ?_⟩
  have hb1 : Below w.heap.size w W1 := HB.out.trans (Below.mono H1.out HB.out.size)
  have hr := HRB.out
  rw [hW2]
  exact Below.setCell (Below.setCell (Below.setCell hb1 (by simp; omega) _) (by simp; omega) _) (by simp; omega) _

set_option maxRecDepth 100000 in
/-- netip.AddrFromSlice of neither four nor sixteen bytes. -/
theorem fromSlice_no (p : Option Addr) (n c : Nat) (w : World) (h4 : n ≠ 4) (h16 : n ≠ 16) (hn : n ≤ 1048576) :
    Calls Ybad.prog 24 #[.slice p n c] w fun e w' => e = .returned (.tuple #[adr 0 0 none, .bool false]) ∧ Below w.heap.size w w' := by
  have e4 : ((n : Int) == 4) = false := by simp; omega
  have e16 : ((n : Int) == 16) = false := by simp; omega
  go_enter Ybad.func24, Ybad.ntmps24
  go_wp2_with fail
  go_returns
  refine ⟨rfl, ?_⟩
  exact (Below.refl _ _).alloc (Nat.le_refl _) _
end Go.Proofs.YbulkdphmDoor
