/-
  snmp.parseValue: addresses; in one contract.
-/
import Derived.Test.YbulkdphmDoorRows
import Derived.WalkKit
import Derived.ProofKit
import Derived.OpenShut
import Derived.WalkLawsBesides
import Derived.BigQuiet
import Derived.Laws.BitsAllLaws
import Derived.Laws.StructEq
import Derived.Outline
import Derived.Test.YbulkdphmDoorPvB
import Derived.Deep.RegionWith
import Derived.Deep.RegionHeld3
import Derived.Deep.DeepCutAuto
import Derived.Deep.DrawnRows
import Derived.Handy
import Derived.Laws.ResultCell
namespace Go.Proofs.YbulkdphmDoor
open Go.ChangeShapes Go.WideShapes Go.ChangeAt Go.RowKit
open Go.ChangeMaps (setBlock)
set_option linter.unusedVariables false
set_option linter.unusedSimpArgs false

open Go.Lib (byteCells decDigits itoa)

set_option maxRecDepth 100000 in
set_option maxHeartbeats 1600000 in
theorem pv_64_4 (b off n c : Nat) (xs : List Int) (w : World) (h : Bytes w b off n xs) (hc : n ≤ c) (hn : n ≤ 1048576) (htab : Tab w) (a4 a6 : Addr) (Z : Zs w a4 a6) (hz : n = 4) : Calls Ybad.prog 16 #[.int .u8 64, .slice (some ⟨b, off, none⟩) n c] w fun e w' => PV 64 xs w e w' := by
  obtain ⟨rb, hrb⟩ : ∃ rb, rb = w.heap.size := ⟨_, rfl⟩
  obtain ⟨W0, hW0⟩ : ∃ W0, W0 = w.alloc (.cells #[.string ⟨#[]⟩, .string ⟨#[]⟩, .bool false] 27) := ⟨_, rfl⟩
  have hrk : W0.heap[rb]? = some (.cells #[.string ⟨#[]⟩, .string ⟨#[]⟩, .bool false] 27) := by rw [hW0]; exact hp_alloc_at hrb
  have hb : Below w.heap.size w W0 := by rw [hW0]; exact (Below.refl _ _).alloc (Nat.le_refl _) _
  have hB0 := h.on hb
  have HRB := hide hrb
  have HW0 := hide hW0
  have HRK := hide hrk
  have HB := hide hb
  have hl := h.len
  subst hz
  have q0 := h.at (i := 0) (by omega)
  have q1 := h.at (i := 1) (by omega)
  have q2 := h.at (i := 2) (by omega)
  have q3 := h.at (i := 3) (by omega)
  obtain ⟨L, hL⟩ : ∃ L, L = lo4 (xs.getD 0 0).toNat (xs.getD 1 0).toNat (xs.getD 2 0).toNat (xs.getD 3 0).toNat := ⟨_, rfl⟩
  have hLb : L < 18446744073709551616 := by rw [hL]; unfold lo4; omega
  have hA := fromSlice4 b off c xs (xs.getD 0 0).toNat (xs.getD 1 0).toNat (xs.getD 2 0).toNat (xs.getD 3 0).toNat W0 a4 a6 (Z.on hb) hB0 (by omega) (by omega) (by omega) (by omega)
  rw [← hL] at hA
  have hsp : pvS 64 xs = some ⟨(txt4 L).toArray⟩ := by
    show (if xs.length = 4 then some (⟨(txt4 (lo4 (xs.getD 0 0).toNat (xs.getD 1 0).toNat (xs.getD 2 0).toNat (xs.getD 3 0).toNat)).toArray⟩ : ByteArray) else if xs.length = 16 then none else some ⟨#[105, 110, 118, 97, 108, 105, 100, 32, 73, 80]⟩) = _
    rw [if_pos hl.symm, hL]
  have hok : pvK 64 xs = true := by show decide (xs.length = 4) = true; exact decide_eq_true hl.symm
  obtain ⟨sv, hsv⟩ : ∃ sv : ByteArray, sv = ⟨(txt4 L).toArray⟩ := ⟨_, rfl⟩
  rw [← hsv] at hsp
  have HA := hide hA
  have HS : Hid (∀ w1, Zs w1 a4 a6 → Calls Ybad.prog 25 #[adr 0 L (some a4)] w1 fun e w' => e = .returned (.string sv) ∧ Below w1.heap.size w1 w') := by
    intro w1 z1
    rw [hsv]
    exact string_z4 0 L hLb w1 a4 a6 z1
  have H4 : Hid (∀ w1, Zs w1 a4 a6 → Calls Ybad.prog 26 #[adr 0 L (some a4)] w1 fun e w' => e = .returned (.bool true) ∧ Below w1.heap.size w1 w') := fun w1 z1 => is4_z4 0 L w1 a4 a6 z1
  have HSP := hide hsp
  clear q0 q1 q2 q3 hA hsp hsv hL hLb
  have HOK := hide hok
  have HZ := hide Z
  clear hrb hW0 hrk hb hB0 h htab Z hok hl
  go_enter Ybad.func16, Ybad.ntmps16
  go_upto_region 1 with fail
  rw [← HW0.out, ← HRB.out]
  go_upto_region 19 with (go_at_call 24; refine HA.out.mono ?_; rintro e W1 ⟨rfl, hh⟩; have HQ1 := hide hh; clear hh)
  obtain ⟨tb, htb⟩ : ∃ tb, tb = W1.heap.size := ⟨_, rfl⟩
  obtain ⟨W2, hW2⟩ : ∃ W2, W2 = W1.alloc (.cells #[.int .u64 0, .int .u64 (L : Int), .pointer (some a4)] 59) := ⟨_, rfl⟩
  rw [← hW2, ← htb]
  have hbx : W2.heap[tb]? = some (.cells #[.int .u64 0, .int .u64 (L : Int), .pointer (some a4)] 59) := by rw [hW2]; exact hp_alloc_at htb
  have hb12 : Below W1.heap.size W1 W2 := by rw [hW2]; exact (Below.refl _ _).alloc (Nat.le_refl _) _
  have hb02 : Below W0.heap.size W0 W2 := HQ1.out.trans (Below.mono hb12 HQ1.out.size)
  have hz2 : Zs W2 a4 a6 := HZ.out.on (HB.out.trans (Below.mono hb02 HB.out.size))
  have c0 : W2.cell? ⟨tb, 0, none⟩ = some (.int .u64 0) := cell_at hbx rfl
  have c1 : W2.cell? ⟨tb, 1, none⟩ = some (.int .u64 (L : Int)) := cell_at hbx rfl
  have c2 : W2.cell? ⟨tb, 2, none⟩ = some (.pointer (some a4)) := cell_at hbx rfl
  have HS2 : Hid (Calls Ybad.prog 25 #[adr 0 L (some a4)] W2 fun e w' => e = .returned (.string sv) ∧ (Below W0.heap.size W0 w' ∧ w'.cell? ⟨tb, 0, none⟩ = some (.int .u64 0) ∧ w'.cell? ⟨tb, 1, none⟩ = some (.int .u64 (L : Int)) ∧ w'.cell? ⟨tb, 2, none⟩ = some (.pointer (some a4)))) := by
    refine (HS.out W2 hz2).mono ?_
    rintro e w' ⟨he, hh⟩
    have hk := (hh.block tb (lt_of_block hbx)).trans hbx
    have hb3 : Below W0.heap.size W0 w' := hb02.trans (Below.mono hh hb02.size)
    exact ⟨he, hb3, cell_at hk rfl, cell_at hk rfl, cell_at hk rfl⟩
  have HI4 : Hid (∀ w1, Below W0.heap.size W0 w1 → Calls Ybad.prog 26 #[adr 0 L (some a4)] w1 fun e w' => e = .returned (.bool true) ∧ (Below W0.heap.size W0 w' ∧ w'.cell? ⟨rb, 0, none⟩ = some (.string ⟨#[]⟩) ∧ w'.cell? ⟨rb, 1, none⟩ = some (.string ⟨#[]⟩) ∧ w'.cell? ⟨rb, 2, none⟩ = some (.bool false) ∧ w'.frozen? ⟨rb, 0, none⟩ = false ∧ w'.frozen? ⟨rb, 1, none⟩ = false ∧ w'.frozen? ⟨rb, 2, none⟩ = false)) := fun w1 hb1 => (H4.out w1 (HZ.out.on (HB.out.trans (Below.mono hb1 HB.out.size)))).mono fun e w' hh => ⟨hh.1, hb1.trans (Below.mono hh.2 hb1.size), rb_keep HRK.out (hb1.trans (Below.mono hh.2 hb1.size))⟩
  clear hbx hb12 hb02 hz2 hW2 htb
  go_wp2_with (first | (go_at_call 25; refine HS2.out.mono ?_; rintro e W3 ⟨rfl, hh, d0, d1, d2⟩; have HQ3 := hide hh; clear hh) | (go_at_call 26; refine (HI4.out _ HQ3.out).mono ?_; rintro e W4 ⟨rfl, hh, r0, r1, r2, y0, y1, y2⟩; have HQ := hide hh; clear hh))
  have KK := hide ((HQ.out.block rb (lt_of_block HRK.out)).trans HRK.out)
  obtain ⟨W5, hW5⟩ : ∃ W5, W5 = ((W4.setCell ⟨rb, 0, none⟩ (.string ⟨#[]⟩)).setCell ⟨rb, 1, none⟩ (.string sv)).setCell ⟨rb, 2, none⟩ (.bool false) := ⟨_, rfl⟩
  rw [← hW5]
  have hk2 : W5.heap[rb]? = some (.cells #[.string ⟨#[]⟩, .string sv, .bool false] 27) := by
    rw [hW5, hp_setCell_eq (hp_setCell_eq (hp_setCell_eq KK.out))]
    rfl
  try simp only [Exit.inBlock, Exit.then]
  refine bodyPost_ret (res_two rfl _ _ ⟨rb, 0, none⟩ _ rfl (load27 rb _ _ _ W5 (cell_at hk2 rfl) (cell_at hk2 rfl) (cell_at hk2 rfl))) rfl ?_
  refine ⟨sv, ?_, ?_, ?_⟩
  · rw [HOK.out]; rfl
  · intro t ht
    rw [HSP.out] at ht
    cases ht; rfl
  · have hr := HRB.out
    rw [hW5]
    exact Below.setCell (Below.setCell (Below.setCell (HB.out.trans (Below.mono HQ.out HB.out.size)) (by simp; omega) _) (by simp; omega) _) (by simp; omega) _

set_option maxRecDepth 100000 in
set_option maxHeartbeats 1600000 in
theorem pv_64_16 (b off n c : Nat) (xs : List Int) (w : World) (h : Bytes w b off n xs) (hc : n ≤ c) (hn : n ≤ 1048576) (htab : Tab w) (a4 a6 : Addr) (Z : Zs w a4 a6) (hz : n = 16) : Calls Ybad.prog 16 #[.int .u8 64, .slice (some ⟨b, off, none⟩) n c] w fun e w' => PV 64 xs w e w' := by
  obtain ⟨rb, hrb⟩ : ∃ rb, rb = w.heap.size := ⟨_, rfl⟩
  obtain ⟨W0, hW0⟩ : ∃ W0, W0 = w.alloc (.cells #[.string ⟨#[]⟩, .string ⟨#[]⟩, .bool false] 27) := ⟨_, rfl⟩
  have hrk : W0.heap[rb]? = some (.cells #[.string ⟨#[]⟩, .string ⟨#[]⟩, .bool false] 27) := by rw [hW0]; exact hp_alloc_at hrb
  have hb : Below w.heap.size w W0 := by rw [hW0]; exact (Below.refl _ _).alloc (Nat.le_refl _) _
  have hB0 := h.on hb
  have HRB := hide hrb
  have HW0 := hide hW0
  have HRK := hide hrk
  have HB := hide hb
  have hl := h.len
  subst hz
  have hA := fromSlice16 b off c xs W0 a4 a6 (Z.on hb) hB0
  have hsp : pvS 64 xs = none := by
    show (if xs.length = 4 then some (⟨(txt4 (lo4 (xs.getD 0 0).toNat (xs.getD 1 0).toNat (xs.getD 2 0).toNat (xs.getD 3 0).toNat)).toArray⟩ : ByteArray) else if xs.length = 16 then none else some ⟨#[105, 110, 118, 97, 108, 105, 100, 32, 73, 80]⟩) = _
    rw [if_neg (by omega), if_pos hl.symm]
  have hok : pvK 64 xs = false := by show decide (xs.length = 4) = false; exact decide_eq_false (by omega)
  have HA := hide hA
  have HSP := hide hsp
  clear hA hsp
  have HOK := hide hok
  have HZ := hide Z
  clear hrb hW0 hrk hb hB0 h htab Z hok hl
  go_enter Ybad.func16, Ybad.ntmps16
  go_upto_region 1 with fail
  rw [← HW0.out, ← HRB.out]
  go_upto_region 19 with (go_at_call 24; refine HA.out.mono ?_; rintro e W1 ⟨hi, lo, rfl, hh1, hh2, hh⟩; have HQ1 := hide hh; have HHI := hide hh1; have HLO := hide hh2; clear hh hh1 hh2)
  obtain ⟨tb, htb⟩ : ∃ tb, tb = W1.heap.size := ⟨_, rfl⟩
  obtain ⟨W2, hW2⟩ : ∃ W2, W2 = W1.alloc (.cells #[.int .u64 (hi : Int), .int .u64 (lo : Int), .pointer (some a6)] 59) := ⟨_, rfl⟩
  rw [← hW2, ← htb]
  have hbx : W2.heap[tb]? = some (.cells #[.int .u64 (hi : Int), .int .u64 (lo : Int), .pointer (some a6)] 59) := by rw [hW2]; exact hp_alloc_at htb
  have hb12 : Below W1.heap.size W1 W2 := by rw [hW2]; exact (Below.refl _ _).alloc (Nat.le_refl _) _
  have hb02 : Below W0.heap.size W0 W2 := HQ1.out.trans (Below.mono hb12 HQ1.out.size)
  have hz2 : Zs W2 a4 a6 := HZ.out.on (HB.out.trans (Below.mono hb02 HB.out.size))
  have c0 : W2.cell? ⟨tb, 0, none⟩ = some (.int .u64 (hi : Int)) := cell_at hbx rfl
  have c1 : W2.cell? ⟨tb, 1, none⟩ = some (.int .u64 (lo : Int)) := cell_at hbx rfl
  have c2 : W2.cell? ⟨tb, 2, none⟩ = some (.pointer (some a6)) := cell_at hbx rfl
  have HS2 : Hid (Calls Ybad.prog 25 #[adr hi lo (some a6)] W2 fun e w' => ∃ sv : ByteArray, e = .returned (.string sv) ∧ (Below W0.heap.size W0 w' ∧ w'.cell? ⟨tb, 0, none⟩ = some (.int .u64 (hi : Int)) ∧ w'.cell? ⟨tb, 1, none⟩ = some (.int .u64 (lo : Int)) ∧ w'.cell? ⟨tb, 2, none⟩ = some (.pointer (some a6)))) := by
    refine (string_z6 hi lo HHI.out HLO.out W2 a4 a6 hz2).mono ?_
    rintro e w' ⟨t, he, hh⟩
    have hk := (hh.block tb (lt_of_block hbx)).trans hbx
    have hb3 : Below W0.heap.size W0 w' := hb02.trans (Below.mono hh hb02.size)
    exact ⟨t, he, hb3, cell_at hk rfl, cell_at hk rfl, cell_at hk rfl⟩
  have HI4 : Hid (∀ w1, Below W0.heap.size W0 w1 → Calls Ybad.prog 26 #[adr hi lo (some a6)] w1 fun e w' => e = .returned (.bool false) ∧ (Below W0.heap.size W0 w' ∧ w'.cell? ⟨rb, 0, none⟩ = some (.string ⟨#[]⟩) ∧ w'.cell? ⟨rb, 1, none⟩ = some (.string ⟨#[]⟩) ∧ w'.cell? ⟨rb, 2, none⟩ = some (.bool false) ∧ w'.frozen? ⟨rb, 0, none⟩ = false ∧ w'.frozen? ⟨rb, 1, none⟩ = false ∧ w'.frozen? ⟨rb, 2, none⟩ = false)) := fun w1 hb1 => (is4_z6 hi lo w1 a4 a6 (HZ.out.on (HB.out.trans (Below.mono hb1 HB.out.size)))).mono fun e w' hh => ⟨hh.1, hb1.trans (Below.mono hh.2 hb1.size), rb_keep HRK.out (hb1.trans (Below.mono hh.2 hb1.size))⟩
  clear hbx hb12 hb02 hz2 hW2 htb
  go_wp2_with (first | (go_at_call 25; refine HS2.out.mono ?_; rintro e W3 ⟨sv, rfl, hh, d0, d1, d2⟩; have HQ3 := hide hh; clear hh) | (go_at_call 26; refine (HI4.out _ HQ3.out).mono ?_; rintro e W4 ⟨rfl, hh, r0, r1, r2, y0, y1, y2⟩; have HQ := hide hh; clear hh))
  have KK := hide ((HQ.out.block rb (lt_of_block HRK.out)).trans HRK.out)
  obtain ⟨W5, hW5⟩ : ∃ W5, W5 = ((W4.setCell ⟨rb, 0, none⟩ (.string ⟨#[]⟩)).setCell ⟨rb, 1, none⟩ (.string sv)).setCell ⟨rb, 2, none⟩ (.bool false) := ⟨_, rfl⟩
  rw [← hW5]
  have hk2 : W5.heap[rb]? = some (.cells #[.string ⟨#[]⟩, .string sv, .bool false] 27) := by
    rw [hW5, hp_setCell_eq (hp_setCell_eq (hp_setCell_eq KK.out))]
    rfl
  try simp only [Exit.inBlock, Exit.then]
  refine bodyPost_ret (res_two rfl _ _ ⟨rb, 0, none⟩ _ rfl (load27 rb _ _ _ W5 (cell_at hk2 rfl) (cell_at hk2 rfl) (cell_at hk2 rfl))) rfl ?_
  refine ⟨sv, ?_, ?_, ?_⟩
  · rw [HOK.out]; rfl
  · intro t ht
    rw [HSP.out] at ht
    cases ht
  · have hr := HRB.out
    rw [hW5]
    exact Below.setCell (Below.setCell (Below.setCell (HB.out.trans (Below.mono HQ.out HB.out.size)) (by simp; omega) _) (by simp; omega) _) (by simp; omega) _

set_option maxRecDepth 100000 in
set_option maxHeartbeats 1600000 in
theorem pv_64_no (b off n c : Nat) (xs : List Int) (w : World) (h : Bytes w b off n xs) (hc : n ≤ c) (hn : n ≤ 1048576) (htab : Tab w) (a4 a6 : Addr) (Z : Zs w a4 a6) (h4 : n ≠ 4) (h16 : n ≠ 16) : Calls Ybad.prog 16 #[.int .u8 64, .slice (some ⟨b, off, none⟩) n c] w fun e w' => PV 64 xs w e w' := by
  obtain ⟨rb, hrb⟩ : ∃ rb, rb = w.heap.size := ⟨_, rfl⟩
  obtain ⟨W0, hW0⟩ : ∃ W0, W0 = w.alloc (.cells #[.string ⟨#[]⟩, .string ⟨#[]⟩, .bool false] 27) := ⟨_, rfl⟩
  have hrk : W0.heap[rb]? = some (.cells #[.string ⟨#[]⟩, .string ⟨#[]⟩, .bool false] 27) := by rw [hW0]; exact hp_alloc_at hrb
  have hb : Below w.heap.size w W0 := by rw [hW0]; exact (Below.refl _ _).alloc (Nat.le_refl _) _
  have hB0 := h.on hb
  have HRB := hide hrb
  have HW0 := hide hW0
  have HRK := hide hrk
  have HB := hide hb
  have hl := h.len
  have hA := fromSlice_no (some ⟨b, off, none⟩) n c W0 h4 h16 hn
  have hsp : pvS 64 xs = some ⟨#[105, 110, 118, 97, 108, 105, 100, 32, 73, 80]⟩ := by
    show (if xs.length = 4 then some (⟨(txt4 (lo4 (xs.getD 0 0).toNat (xs.getD 1 0).toNat (xs.getD 2 0).toNat (xs.getD 3 0).toNat)).toArray⟩ : ByteArray) else if xs.length = 16 then none else some ⟨#[105, 110, 118, 97, 108, 105, 100, 32, 73, 80]⟩) = _
    rw [if_neg (by omega), if_neg (by omega)]
  have hok : pvK 64 xs = false := by show decide (xs.length = 4) = false; exact decide_eq_false (by omega)
  obtain ⟨sv, hsv⟩ : ∃ sv : ByteArray, sv = ⟨#[105, 110, 118, 97, 108, 105, 100, 32, 73, 80]⟩ := ⟨_, rfl⟩
  rw [← hsv] at hsp
  have HA := hide hA
  have HS : Hid (∀ w1, Zs w1 a4 a6 → Calls Ybad.prog 25 #[adr 0 0 none] w1 fun e w' => e = .returned (.string sv) ∧ Below w1.heap.size w1 w') := by
    intro w1 z1
    rw [hsv]
    exact string_z0 0 0 w1 a4 a6 z1
  have HSP := hide hsp
  clear hA hsp hsv
  have HOK := hide hok
  have HZ := hide Z
  clear hrb hW0 hrk hb hB0 h htab Z hok hl
  go_enter Ybad.func16, Ybad.ntmps16
  go_upto_region 1 with fail
  rw [← HW0.out, ← HRB.out]
  go_upto_region 19 with (go_at_call 24; refine HA.out.mono ?_; rintro e W1 ⟨rfl, hh⟩; have HQ1 := hide hh; clear hh)
  obtain ⟨tb, htb⟩ : ∃ tb, tb = W1.heap.size := ⟨_, rfl⟩
  obtain ⟨W2, hW2⟩ : ∃ W2, W2 = W1.alloc (.cells #[.int .u64 0, .int .u64 0, .pointer none] 59) := ⟨_, rfl⟩
  rw [← hW2, ← htb]
  have hbx : W2.heap[tb]? = some (.cells #[.int .u64 0, .int .u64 0, .pointer none] 59) := by rw [hW2]; exact hp_alloc_at htb
  have hb12 : Below W1.heap.size W1 W2 := by rw [hW2]; exact (Below.refl _ _).alloc (Nat.le_refl _) _
  have hb02 : Below W0.heap.size W0 W2 := HQ1.out.trans (Below.mono hb12 HQ1.out.size)
  have hz2 : Zs W2 a4 a6 := HZ.out.on (HB.out.trans (Below.mono hb02 HB.out.size))
  have c0 : W2.cell? ⟨tb, 0, none⟩ = some (.int .u64 0) := cell_at hbx rfl
  have c1 : W2.cell? ⟨tb, 1, none⟩ = some (.int .u64 0) := cell_at hbx rfl
  have c2 : W2.cell? ⟨tb, 2, none⟩ = some (.pointer none) := cell_at hbx rfl
  have HS2 : Hid (Calls Ybad.prog 25 #[adr 0 0 none] W2 fun e w' => e = .returned (.string sv) ∧ (Below W0.heap.size W0 w' ∧ w'.cell? ⟨rb, 0, none⟩ = some (.string ⟨#[]⟩) ∧ w'.cell? ⟨rb, 1, none⟩ = some (.string ⟨#[]⟩) ∧ w'.cell? ⟨rb, 2, none⟩ = some (.bool false) ∧ w'.frozen? ⟨rb, 0, none⟩ = false ∧ w'.frozen? ⟨rb, 1, none⟩ = false ∧ w'.frozen? ⟨rb, 2, none⟩ = false)) := by
    refine (HS.out W2 hz2).mono ?_
    rintro e w' ⟨he, hh⟩
    have hb3 : Below W0.heap.size W0 w' := hb02.trans (Below.mono hh hb02.size)
    exact ⟨he, hb3, rb_keep HRK.out hb3⟩
  clear hbx hb12 hb02 hz2 hW2 htb
  go_wp2_with (go_at_call 25; refine HS2.out.mono ?_; rintro e W4 ⟨rfl, hh, r0, r1, r2, y0, y1, y2⟩; have HQ := hide hh; clear hh)
  have KK := hide ((HQ.out.block rb (lt_of_block HRK.out)).trans HRK.out)
  obtain ⟨W5, hW5⟩ : ∃ W5, W5 = ((W4.setCell ⟨rb, 0, none⟩ (.string ⟨#[]⟩)).setCell ⟨rb, 1, none⟩ (.string sv)).setCell ⟨rb, 2, none⟩ (.bool false) := ⟨_, rfl⟩
  rw [← hW5]
  have hk2 : W5.heap[rb]? = some (.cells #[.string ⟨#[]⟩, .string sv, .bool false] 27) := by
    rw [hW5, hp_setCell_eq (hp_setCell_eq (hp_setCell_eq KK.out))]
    rfl
  try simp only [Exit.inBlock, Exit.then]
  refine bodyPost_ret (res_two rfl _ _ ⟨rb, 0, none⟩ _ rfl (load27 rb _ _ _ W5 (cell_at hk2 rfl) (cell_at hk2 rfl) (cell_at hk2 rfl))) rfl ?_
  refine ⟨sv, ?_, ?_, ?_⟩
  · rw [HOK.out]; rfl
  · intro t ht
    rw [HSP.out] at ht
    cases ht; rfl
  · have hr := HRB.out
    rw [hW5]
    exact Below.setCell (Below.setCell (Below.setCell (HB.out.trans (Below.mono HQ.out HB.out.size)) (by simp; omega) _) (by simp; omega) _) (by simp; omega) _

set_option maxRecDepth 100000 in
set_option maxHeartbeats 1600000 in
theorem pv_other (b off n c : Nat) (xs : List Int) (w : World) (h : Bytes w b off n xs) (hc : n ≤ c) (hn : n ≤ 1048576) (htab : Tab w) (a4 a6 : Addr) (Z : Zs w a4 a6) (tg : Int) (hne : ¬ tg = 2 ∧ ¬ tg = 65 ∧ ¬ tg = 66 ∧ ¬ tg = 67 ∧ ¬ tg = 70 ∧ ¬ tg = 4 ∧ ¬ tg = 68 ∧ ¬ tg = 6 ∧ ¬ tg = 64 ∧ ¬ tg = 5 ∧ ¬ tg = 128 ∧ ¬ tg = 129 ∧ ¬ tg = 130) : Calls Ybad.prog 16 #[.int .u8 tg, .slice (some ⟨b, off, none⟩) n c] w fun e w' => PV tg xs w e w' := by
  obtain ⟨rb, hrb⟩ : ∃ rb, rb = w.heap.size := ⟨_, rfl⟩
  obtain ⟨W0, hW0⟩ : ∃ W0, W0 = w.alloc (.cells #[.string ⟨#[]⟩, .string ⟨#[]⟩, .bool false] 27) := ⟨_, rfl⟩
  have hrk : W0.heap[rb]? = some (.cells #[.string ⟨#[]⟩, .string ⟨#[]⟩, .bool false] 27) := by rw [hW0]; exact hp_alloc_at hrb
  have hb : Below w.heap.size w W0 := by rw [hW0]; exact (Below.refl _ _).alloc (Nat.le_refl _) _
  have hB0 := h.on hb
  have HRB := hide hrb
  have HW0 := hide hW0
  have HRK := hide hrk
  have HB := hide hb
  have t2 : (tg == 2) = false := by simp; exact hne.1
  have t65 : (tg == 65) = false := by simp; exact hne.2.1
  have t66 : (tg == 66) = false := by simp; exact hne.2.2.1
  have t67 : (tg == 67) = false := by simp; exact hne.2.2.2.1
  have t70 : (tg == 70) = false := by simp; exact hne.2.2.2.2.1
  have t4 : (tg == 4) = false := by simp; exact hne.2.2.2.2.2.1
  have t68 : (tg == 68) = false := by simp; exact hne.2.2.2.2.2.2.1
  have t6 : (tg == 6) = false := by simp; exact hne.2.2.2.2.2.2.2.1
  have t64 : (tg == 64) = false := by simp; exact hne.2.2.2.2.2.2.2.2.1
  have t5 : (tg == 5) = false := by simp; exact hne.2.2.2.2.2.2.2.2.2.1
  have t128 : (tg == 128) = false := by simp; exact hne.2.2.2.2.2.2.2.2.2.2.1
  have t129 : (tg == 129) = false := by simp; exact hne.2.2.2.2.2.2.2.2.2.2.2.1
  have t130 : (tg == 130) = false := by simp; exact hne.2.2.2.2.2.2.2.2.2.2.2.2
  have hsp : pvS tg xs = some ⟨#[]⟩ := by unfold pvS; simp [hne]
  have hok : pvK tg xs = false := by unfold pvK; simp [hne]
  have hnl : pvN tg = false := by unfold pvN; simp [hne]
  have HSP := hide hsp
  have HOK := hide hok
  have HNL := hide hnl
  have HQ : Hid (Below W0.heap.size W0 W0) := Below.refl _ _
  clear hrb hW0 hrk hb hB0 h htab Z hsp hok hnl hne
  go_enter Ybad.func16, Ybad.ntmps16
  go_upto_region 1 with fail
  rw [← HW0.out, ← HRB.out]
  have kk1 := (HQ.out.block rb (lt_of_block HRK.out)).trans HRK.out
  have r0 : W0.cell? ⟨rb, 0, none⟩ = some (.string ⟨#[]⟩) := cell_at kk1 rfl
  have r1 : W0.cell? ⟨rb, 1, none⟩ = some (.string ⟨#[]⟩) := cell_at kk1 rfl
  have r2 : W0.cell? ⟨rb, 2, none⟩ = some (.bool false) := cell_at kk1 rfl
  have y0 : W0.frozen? ⟨rb, 0, none⟩ = false := frozen_at kk1
  have y1 : W0.frozen? ⟨rb, 1, none⟩ = false := frozen_at kk1
  have y2 : W0.frozen? ⟨rb, 2, none⟩ = false := frozen_at kk1
  have KK := hide kk1
  clear kk1
  go_wp2_with fail
  obtain ⟨W2, hW2⟩ : ∃ W2, W2 = ((W0.setCell ⟨rb, 0, none⟩ (.string ⟨#[]⟩)).setCell ⟨rb, 1, none⟩ (.string ⟨#[]⟩)).setCell ⟨rb, 2, none⟩ (.bool false) := ⟨_, rfl⟩
  rw [← hW2]
  have hk2 : W2.heap[rb]? = some (.cells #[.string ⟨#[]⟩, .string ⟨#[]⟩, .bool false] 27) := by
    rw [hW2, hp_setCell_eq (hp_setCell_eq (hp_setCell_eq KK.out))]
    rfl
  try simp only [Exit.inBlock, Exit.then]
  refine bodyPost_ret (res_two rfl _ _ ⟨rb, 0, none⟩ _ rfl (load27 rb _ _ _ W2 (cell_at hk2 rfl) (cell_at hk2 rfl) (cell_at hk2 rfl))) rfl ?_
  refine ⟨⟨#[]⟩, ?_, ?_, ?_⟩
  · rw [HOK.out, HNL.out]; rfl
  · intro t ht
    rw [HSP.out] at ht
    cases ht; rfl
  · have hr := HRB.out
    rw [hW2]
    exact Below.setCell (Below.setCell (Below.setCell (HB.out.trans (Below.mono HQ.out HB.out.size)) (by simp; omega) _) (by simp; omega) _) (by simp; omega) _

/-- snmp.parseValue -/
theorem pv_any (b off n c : Nat) (xs : List Int) (w : World) (h : Bytes w b off n xs) (hc : n ≤ c) (hn : n ≤ 1048576) (htab : Tab w) (a4 a6 : Addr) (Z : Zs w a4 a6) (tg : Int) : Calls Ybad.prog 16 #[.int .u8 tg, .slice (some ⟨b, off, none⟩) n c] w fun e w' => PV tg xs w e w' := by
  have hl := h.len
  by_cases k2 : tg = 2
  · subst k2
    by_cases h8 : 0 < n ∧ n ≤ 8
    · exact pv_2_ok b off n c xs w h hc hn htab a4 a6 Z h8.1 h8.2
    · exact pv_2_no b off n c xs w h hc hn htab a4 a6 Z (by omega)
  by_cases k65 : tg = 65
  · subst k65
    by_cases hz : n = 0
    · exact pv_65_nil b off n c xs w h hc hn htab a4 a6 Z hz
    · by_cases h8 : (dz xs).length ≤ 8
      · exact pv_65_ok b off n c xs w h hc hn htab a4 a6 Z (by omega) h8
      · exact pv_65_no b off n c xs w h hc hn htab a4 a6 Z (by omega) (by omega)
  by_cases k66 : tg = 66
  · subst k66
    by_cases hz : n = 0
    · exact pv_66_nil b off n c xs w h hc hn htab a4 a6 Z hz
    · by_cases h8 : (dz xs).length ≤ 8
      · exact pv_66_ok b off n c xs w h hc hn htab a4 a6 Z (by omega) h8
      · exact pv_66_no b off n c xs w h hc hn htab a4 a6 Z (by omega) (by omega)
  by_cases k67 : tg = 67
  · subst k67
    by_cases hz : n = 0
    · exact pv_67_nil b off n c xs w h hc hn htab a4 a6 Z hz
    · by_cases h8 : (dz xs).length ≤ 8
      · exact pv_67_ok b off n c xs w h hc hn htab a4 a6 Z (by omega) h8
      · exact pv_67_no b off n c xs w h hc hn htab a4 a6 Z (by omega) (by omega)
  by_cases k70 : tg = 70
  · subst k70
    by_cases hz : n = 0
    · exact pv_70_nil b off n c xs w h hc hn htab a4 a6 Z hz
    · by_cases h8 : (dz xs).length ≤ 8
      · exact pv_70_ok b off n c xs w h hc hn htab a4 a6 Z (by omega) h8
      · exact pv_70_no b off n c xs w h hc hn htab a4 a6 Z (by omega) (by omega)
  by_cases k4 : tg = 4
  · subst k4; exact pv_4 b off n c xs w h hc hn htab a4 a6 Z
  by_cases k68 : tg = 68
  · subst k68; exact pv_68 b off n c xs w h hc hn htab a4 a6 Z
  by_cases k6 : tg = 6
  · subst k6; exact pv_6 b off n c xs w h hc hn htab a4 a6 Z
  by_cases k64 : tg = 64
  · subst k64
    by_cases h4 : n = 4
    · exact pv_64_4 b off n c xs w h hc hn htab a4 a6 Z h4
    · by_cases h16 : n = 16
      · exact pv_64_16 b off n c xs w h hc hn htab a4 a6 Z h16
      · exact pv_64_no b off n c xs w h hc hn htab a4 a6 Z h4 h16
  by_cases k5 : tg = 5
  · subst k5
    by_cases hz : n = 0
    · exact pv_5_0 b off n c xs w h hc hn htab a4 a6 Z hz
    · exact pv_5_1 b off n c xs w h hc hn htab a4 a6 Z hz
  by_cases k128 : tg = 128
  · subst k128
    by_cases hz : n = 0
    · exact pv_128_0 b off n c xs w h hc hn htab a4 a6 Z hz
    · exact pv_128_1 b off n c xs w h hc hn htab a4 a6 Z hz
  by_cases k129 : tg = 129
  · subst k129
    by_cases hz : n = 0
    · exact pv_129_0 b off n c xs w h hc hn htab a4 a6 Z hz
    · exact pv_129_1 b off n c xs w h hc hn htab a4 a6 Z hz
  by_cases k130 : tg = 130
  · subst k130
    by_cases hz : n = 0
    · exact pv_130_0 b off n c xs w h hc hn htab a4 a6 Z hz
    · exact pv_130_1 b off n c xs w h hc hn htab a4 a6 Z hz
  exact pv_other b off n c xs w h hc hn htab a4 a6 Z tg ⟨k2, k65, k66, k67, k70, k4, k68, k6, k64, k5, k128, k129, k130⟩
end Go.Proofs.YbulkdphmDoor
