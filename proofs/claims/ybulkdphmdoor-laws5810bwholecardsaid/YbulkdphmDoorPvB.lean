/-
  snmp.parseValue: numbers, texts, identifiers.
-/
import Derived.Test.YbulkdphmDoorRows
import Derived.WalkKit
import Derived.ProofKit
import Derived.OpenShut
import Derived.WalkLawsBesides
import Derived.BigQuiet
import Derived.Laws.BitsAllLaws
import Derived.Laws.StructEq
import Derived.Outline
import Derived.Test.YbulkdphmDoorPvA
import Derived.Deep.RegionWith
import Derived.Deep.RegionHeld3
import Derived.Deep.DeepCutAuto
import Derived.Deep.DrawnRows
import Derived.Handy
import Derived.Laws.ResultCell
namespace Go.Proofs.YbulkdphmDoor
open Go.ChangeShapes Go.WideShapes Go.ChangeAt Go.RowKit
open Go.ChangeMaps (setBlock)
set_option linter.unusedVariables false
set_option linter.unusedSimpArgs false

open Go.Lib (byteCells decDigits itoa)

set_option maxRecDepth 100000 in
set_option maxHeartbeats 1600000 in
theorem pv_2_ok (b off n c : Nat) (xs : List Int) (w : World) (h : Bytes w b off n xs) (hc : n ≤ c) (hn : n ≤ 1048576) (htab : Tab w) (a4 a6 : Addr) (Z : Zs w a4 a6) (h1 : 0 < n) (h8 : n ≤ 8) : Calls Ybad.prog 16 #[.int .u8 2, .slice (some ⟨b, off, none⟩) n c] w fun e w' => PV 2 xs w e w' := by
  obtain ⟨rb, hrb⟩ : ∃ rb, rb = w.heap.size := ⟨_, rfl⟩
  obtain ⟨W0, hW0⟩ : ∃ W0, W0 = w.alloc (.cells #[.string ⟨#[]⟩, .string ⟨#[]⟩, .bool false] 27) := ⟨_, rfl⟩
  have hrk : W0.heap[rb]? = some (.cells #[.string ⟨#[]⟩, .string ⟨#[]⟩, .bool false] 27) := by rw [hW0]; exact hp_alloc_at hrb
  have hb : Below w.heap.size w W0 := by rw [hW0]; exact (Below.refl _ _).alloc (Nat.le_refl _) _
  have hB0 := h.on hb
  have HRB := hide hrb
  have HW0 := hide hW0
  have HRK := hide hrk
  have HB := hide hb
  have hl := h.len
  have hsp : pvS 2 xs = some ⟨(itoa (sI xs)).toArray⟩ := by
    show some (⟨(itoa (if 0 < xs.length ∧ xs.length ≤ 8 then sI xs else 0)).toArray⟩ : ByteArray) = _
    rw [if_pos (by omega)]
  have hok0 : pvK 2 xs = decide (0 < xs.length ∧ xs.length ≤ 8) := rfl
  have hok : pvK 2 xs = true := by rw [hok0]; exact decide_eq_true (by omega)
  have hbd := sI_bound h.byte (by omega)
  have HP := hide (parseInt_ok b off n c xs W0 hB0 hc h1 h8)
  have HFM : Hid (Calls Ybad.prog 11 #[.int .i64 (sI xs), .int .i64 10] W0 fun e w' => e = .returned (.string ⟨(itoa (sI xs)).toArray⟩) ∧ (Below W0.heap.size W0 w' ∧ w'.cell? ⟨rb, 0, none⟩ = some (.string ⟨#[]⟩) ∧ w'.cell? ⟨rb, 1, none⟩ = some (.string ⟨#[]⟩) ∧ w'.cell? ⟨rb, 2, none⟩ = some (.bool false) ∧ w'.frozen? ⟨rb, 0, none⟩ = false ∧ w'.frozen? ⟨rb, 1, none⟩ = false ∧ w'.frozen? ⟨rb, 2, none⟩ = false)) := (fmtI (sI xs) hbd.1 hbd.2 W0 (htab.on hb)).mono fun e w' hh => ⟨hh.1, hh.2, rb_keep HRK.out hh.2⟩
  obtain ⟨sv, hsv⟩ : ∃ sv : ByteArray, sv = ⟨(itoa (sI xs)).toArray⟩ := ⟨_, rfl⟩
  rw [← hsv] at HFM hsp
  have HSP := hide hsp
  have HOK := hide hok
  clear hrb hW0 hrk hb hB0 h htab Z hok hok0 hl hsp hbd hsv
  go_enter Ybad.func16, Ybad.ntmps16
  go_upto_region 1 with fail
  rw [← HW0.out, ← HRB.out]
  go_wp2_with (first | (go_at_call 21; refine HP.out.mono ?_; rintro e w' ⟨rfl, rfl⟩) | (go_at_call 11; refine HFM.out.mono ?_; rintro e W1 ⟨rfl, hh, r0, r1, r2, y0, y1, y2⟩; have HQ := hide hh; clear hh))
  have KK := hide ((HQ.out.block rb (lt_of_block HRK.out)).trans HRK.out)
  obtain ⟨W2, hW2⟩ : ∃ W2, W2 = ((W1.setCell ⟨rb, 0, none⟩ (.string ⟨#[]⟩)).setCell ⟨rb, 1, none⟩ (.string sv)).setCell ⟨rb, 2, none⟩ (.bool false) := ⟨_, rfl⟩
  rw [← hW2]
  have hk2 : W2.heap[rb]? = some (.cells #[.string ⟨#[]⟩, .string sv, .bool false] 27) := by
    rw [hW2, hp_setCell_eq (hp_setCell_eq (hp_setCell_eq KK.out))]
    rfl
  try simp only [Exit.inBlock, Exit.then]
  refine bodyPost_ret (res_two rfl _ _ ⟨rb, 0, none⟩ _ rfl (load27 rb _ _ _ W2 (cell_at hk2 rfl) (cell_at hk2 rfl) (cell_at hk2 rfl))) rfl ?_
  refine ⟨sv, ?_, ?_, ?_⟩
  · rw [HOK.out]; rfl
  · intro t ht
    have : pvS 2 xs = some sv := HSP.out
    rw [this] at ht
    cases ht; rfl
  · have hr := HRB.out
    rw [hW2]
    exact Below.setCell (Below.setCell (Below.setCell (HB.out.trans (Below.mono HQ.out HB.out.size)) (by simp; omega) _) (by simp; omega) _) (by simp; omega) _

set_option maxRecDepth 100000 in
set_option maxHeartbeats 1600000 in
theorem pv_2_no (b off n c : Nat) (xs : List Int) (w : World) (h : Bytes w b off n xs) (hc : n ≤ c) (hn : n ≤ 1048576) (htab : Tab w) (a4 a6 : Addr) (Z : Zs w a4 a6) (hno : n = 0 ∨ 8 < n) : Calls Ybad.prog 16 #[.int .u8 2, .slice (some ⟨b, off, none⟩) n c] w fun e w' => PV 2 xs w e w' := by
  obtain ⟨rb, hrb⟩ : ∃ rb, rb = w.heap.size := ⟨_, rfl⟩
  obtain ⟨W0, hW0⟩ : ∃ W0, W0 = w.alloc (.cells #[.string ⟨#[]⟩, .string ⟨#[]⟩, .bool false] 27) := ⟨_, rfl⟩
  have hrk : W0.heap[rb]? = some (.cells #[.string ⟨#[]⟩, .string ⟨#[]⟩, .bool false] 27) := by rw [hW0]; exact hp_alloc_at hrb
  have hb : Below w.heap.size w W0 := by rw [hW0]; exact (Below.refl _ _).alloc (Nat.le_refl _) _
  have hB0 := h.on hb
  have HRB := hide hrb
  have HW0 := hide hW0
  have HRK := hide hrk
  have HB := hide hb
  have hl := h.len
  have hsp : pvS 2 xs = some ⟨(itoa (0)).toArray⟩ := by
    show some (⟨(itoa (if 0 < xs.length ∧ xs.length ≤ 8 then sI xs else 0)).toArray⟩ : ByteArray) = _
    rw [if_neg (by omega)]
  have hok0 : pvK 2 xs = decide (0 < xs.length ∧ xs.length ≤ 8) := rfl
  have hok : pvK 2 xs = false := by rw [hok0]; exact decide_eq_false (by omega)
  have hbd : (-9223372036854775808 : Int) ≤ 0 ∧ (0 : Int) ≤ 9223372036854775807 := by omega
  have HP := hide (parseInt_no (some ⟨b, off, none⟩) n c W0 hno hn)
  have HFM : Hid (Calls Ybad.prog 11 #[.int .i64 (0), .int .i64 10] W0 fun e w' => e = .returned (.string ⟨(itoa (0)).toArray⟩) ∧ (Below W0.heap.size W0 w' ∧ w'.cell? ⟨rb, 0, none⟩ = some (.string ⟨#[]⟩) ∧ w'.cell? ⟨rb, 1, none⟩ = some (.string ⟨#[]⟩) ∧ w'.cell? ⟨rb, 2, none⟩ = some (.bool false) ∧ w'.frozen? ⟨rb, 0, none⟩ = false ∧ w'.frozen? ⟨rb, 1, none⟩ = false ∧ w'.frozen? ⟨rb, 2, none⟩ = false)) := (fmtI (0) hbd.1 hbd.2 W0 (htab.on hb)).mono fun e w' hh => ⟨hh.1, hh.2, rb_keep HRK.out hh.2⟩
  obtain ⟨sv, hsv⟩ : ∃ sv : ByteArray, sv = ⟨(itoa (0)).toArray⟩ := ⟨_, rfl⟩
  rw [← hsv] at HFM hsp
  have HSP := hide hsp
  have HOK := hide hok
  clear hrb hW0 hrk hb hB0 h htab Z hok hok0 hl hsp hbd hsv
  go_enter Ybad.func16, Ybad.ntmps16
  go_upto_region 1 with fail
  rw [← HW0.out, ← HRB.out]
  go_wp2_with (first | (go_at_call 21; refine HP.out.mono ?_; rintro e w' ⟨rfl, rfl⟩) | (go_at_call 11; refine HFM.out.mono ?_; rintro e W1 ⟨rfl, hh, r0, r1, r2, y0, y1, y2⟩; have HQ := hide hh; clear hh))
  have KK := hide ((HQ.out.block rb (lt_of_block HRK.out)).trans HRK.out)
  obtain ⟨W2, hW2⟩ : ∃ W2, W2 = ((W1.setCell ⟨rb, 0, none⟩ (.string ⟨#[]⟩)).setCell ⟨rb, 1, none⟩ (.string sv)).setCell ⟨rb, 2, none⟩ (.bool false) := ⟨_, rfl⟩
  rw [← hW2]
  have hk2 : W2.heap[rb]? = some (.cells #[.string ⟨#[]⟩, .string sv, .bool false] 27) := by
    rw [hW2, hp_setCell_eq (hp_setCell_eq (hp_setCell_eq KK.out))]
    rfl
  try simp only [Exit.inBlock, Exit.then]
  refine bodyPost_ret (res_two rfl _ _ ⟨rb, 0, none⟩ _ rfl (load27 rb _ _ _ W2 (cell_at hk2 rfl) (cell_at hk2 rfl) (cell_at hk2 rfl))) rfl ?_
  refine ⟨sv, ?_, ?_, ?_⟩
  · rw [HOK.out]; rfl
  · intro t ht
    have : pvS 2 xs = some sv := HSP.out
    rw [this] at ht
    cases ht; rfl
  · have hr := HRB.out
    rw [hW2]
    exact Below.setCell (Below.setCell (Below.setCell (HB.out.trans (Below.mono HQ.out HB.out.size)) (by simp; omega) _) (by simp; omega) _) (by simp; omega) _

set_option maxRecDepth 100000 in
set_option maxHeartbeats 1600000 in
theorem pv_65_nil (b off n c : Nat) (xs : List Int) (w : World) (h : Bytes w b off n xs) (hc : n ≤ c) (hn : n ≤ 1048576) (htab : Tab w) (a4 a6 : Addr) (Z : Zs w a4 a6) (hz : n = 0) : Calls Ybad.prog 16 #[.int .u8 65, .slice (some ⟨b, off, none⟩) n c] w fun e w' => PV 65 xs w e w' := by
  obtain ⟨rb, hrb⟩ : ∃ rb, rb = w.heap.size := ⟨_, rfl⟩
  obtain ⟨W0, hW0⟩ : ∃ W0, W0 = w.alloc (.cells #[.string ⟨#[]⟩, .string ⟨#[]⟩, .bool false] 27) := ⟨_, rfl⟩
  have hrk : W0.heap[rb]? = some (.cells #[.string ⟨#[]⟩, .string ⟨#[]⟩, .bool false] 27) := by rw [hW0]; exact hp_alloc_at hrb
  have hb : Below w.heap.size w W0 := by rw [hW0]; exact (Below.refl _ _).alloc (Nat.le_refl _) _
  have hB0 := h.on hb
  have HRB := hide hrb
  have HW0 := hide hW0
  have HRK := hide hrk
  have HB := hide hb
  have hl := h.len
  have hsp : pvS 65 xs = some ⟨(decDigits (0)).toArray⟩ := by
    show some (⟨(decDigits (if 0 < xs.length ∧ (dz xs).length ≤ 8 then (uF 0 (dz xs)).toNat else 0)).toArray⟩ : ByteArray) = _
    rw [if_neg (by omega)]
  have hok0 : pvK 65 xs = decide (0 < xs.length ∧ (dz xs).length ≤ 8) := rfl
  have hok : pvK 65 xs = false := by rw [hok0]; exact decide_eq_false (by omega)
  subst hz
  have HP := hide (puint_nil (some ⟨b, off, none⟩) c W0)
  have HFM : Hid (Calls Ybad.prog 12 #[.int .u64 0, .int .i64 10] W0 fun e w' => e = .returned (.string ⟨(decDigits (0)).toArray⟩) ∧ (Below W0.heap.size W0 w' ∧ w'.cell? ⟨rb, 0, none⟩ = some (.string ⟨#[]⟩) ∧ w'.cell? ⟨rb, 1, none⟩ = some (.string ⟨#[]⟩) ∧ w'.cell? ⟨rb, 2, none⟩ = some (.bool false) ∧ w'.frozen? ⟨rb, 0, none⟩ = false ∧ w'.frozen? ⟨rb, 1, none⟩ = false ∧ w'.frozen? ⟨rb, 2, none⟩ = false)) := (fmtU 0 (by omega) W0 (htab.on hb)).mono fun e w' hh => ⟨hh.1, hh.2, rb_keep HRK.out hh.2⟩
  obtain ⟨sv, hsv⟩ : ∃ sv : ByteArray, sv = ⟨(decDigits (0)).toArray⟩ := ⟨_, rfl⟩
  rw [← hsv] at HFM hsp
  have HSP := hide hsp
  have HOK := hide hok
  clear hrb hW0 hrk hb hB0 h htab Z hok hok0 hl hsp hsv
  go_enter Ybad.func16, Ybad.ntmps16
  go_upto_region 1 with fail
  rw [← HW0.out, ← HRB.out]
  go_wp2_with (first | (go_at_call 22; refine HP.out.mono ?_; rintro e w' ⟨rfl, rfl⟩) | (go_at_call 12; refine HFM.out.mono ?_; rintro e W1 ⟨rfl, hh, r0, r1, r2, y0, y1, y2⟩; have HQ := hide hh; clear hh))
  have KK := hide ((HQ.out.block rb (lt_of_block HRK.out)).trans HRK.out)
  obtain ⟨W2, hW2⟩ : ∃ W2, W2 = ((W1.setCell ⟨rb, 0, none⟩ (.string ⟨#[]⟩)).setCell ⟨rb, 1, none⟩ (.string sv)).setCell ⟨rb, 2, none⟩ (.bool false) := ⟨_, rfl⟩
  rw [← hW2]
  have hk2 : W2.heap[rb]? = some (.cells #[.string ⟨#[]⟩, .string sv, .bool false] 27) := by
    rw [hW2, hp_setCell_eq (hp_setCell_eq (hp_setCell_eq KK.out))]
    rfl
  try simp only [Exit.inBlock, Exit.then]
  refine bodyPost_ret (res_two rfl _ _ ⟨rb, 0, none⟩ _ rfl (load27 rb _ _ _ W2 (cell_at hk2 rfl) (cell_at hk2 rfl) (cell_at hk2 rfl))) rfl ?_
  refine ⟨sv, ?_, ?_, ?_⟩
  · rw [HOK.out]; rfl
  · intro t ht
    have : pvS 65 xs = some sv := HSP.out
    rw [this] at ht
    cases ht; rfl
  · have hr := HRB.out
    rw [hW2]
    exact Below.setCell (Below.setCell (Below.setCell (HB.out.trans (Below.mono HQ.out HB.out.size)) (by simp; omega) _) (by simp; omega) _) (by simp; omega) _

set_option maxRecDepth 100000 in
set_option maxHeartbeats 1600000 in
theorem pv_65_ok (b off n c : Nat) (xs : List Int) (w : World) (h : Bytes w b off n xs) (hc : n ≤ c) (hn : n ≤ 1048576) (htab : Tab w) (a4 a6 : Addr) (Z : Zs w a4 a6) (h1 : 0 < n) (h8 : (dz xs).length ≤ 8) : Calls Ybad.prog 16 #[.int .u8 65, .slice (some ⟨b, off, none⟩) n c] w fun e w' => PV 65 xs w e w' := by
  obtain ⟨rb, hrb⟩ : ∃ rb, rb = w.heap.size := ⟨_, rfl⟩
  obtain ⟨W0, hW0⟩ : ∃ W0, W0 = w.alloc (.cells #[.string ⟨#[]⟩, .string ⟨#[]⟩, .bool false] 27) := ⟨_, rfl⟩
  have hrk : W0.heap[rb]? = some (.cells #[.string ⟨#[]⟩, .string ⟨#[]⟩, .bool false] 27) := by rw [hW0]; exact hp_alloc_at hrb
  have hb : Below w.heap.size w W0 := by rw [hW0]; exact (Below.refl _ _).alloc (Nat.le_refl _) _
  have hB0 := h.on hb
  have HRB := hide hrb
  have HW0 := hide hW0
  have HRK := hide hrk
  have HB := hide hb
  have hl := h.len
  have hsp : pvS 65 xs = some ⟨(decDigits ((uF 0 (dz xs)).toNat)).toArray⟩ := by
    show some (⟨(decDigits (if 0 < xs.length ∧ (dz xs).length ≤ 8 then (uF 0 (dz xs)).toNat else 0)).toArray⟩ : ByteArray) = _
    rw [if_pos (by omega)]
  have hok0 : pvK 65 xs = decide (0 < xs.length ∧ (dz xs).length ≤ 8) := rfl
  have hok : pvK 65 xs = true := by rw [hok0]; exact decide_eq_true (by omega)
  have HP := hide (puint_ok b off n c xs W0 hB0 hc h1 hn h8)
  have hU : uF 0 (dz xs) < 18446744073709551616 := by
    have h1 := (uF_bound (dz xs) (dz_byte h.byte)).2
    have h2 : (256 : Int) ^ (dz xs).length ≤ 256 ^ 8 := pow256 h8
    have e8 : (256 : Int) ^ 8 = 18446744073709551616 := by decide
    omega
  have hU0 := (uF_bound (dz xs) (dz_byte h.byte)).1
  obtain ⟨U, hUU⟩ : ∃ U : Nat, U = (uF 0 (dz xs)).toNat := ⟨_, rfl⟩
  have hUI : uF 0 (dz xs) = (U : Int) := by omega
  rw [hUI] at HP
  rw [← hUU] at hsp
  have hUb : U < 18446744073709551616 := by omega
  have HFM : Hid (Calls Ybad.prog 12 #[.int .u64 (U : Int), .int .i64 10] W0 fun e w' => e = .returned (.string ⟨(decDigits U).toArray⟩) ∧ (Below W0.heap.size W0 w' ∧ w'.cell? ⟨rb, 0, none⟩ = some (.string ⟨#[]⟩) ∧ w'.cell? ⟨rb, 1, none⟩ = some (.string ⟨#[]⟩) ∧ w'.cell? ⟨rb, 2, none⟩ = some (.bool false) ∧ w'.frozen? ⟨rb, 0, none⟩ = false ∧ w'.frozen? ⟨rb, 1, none⟩ = false ∧ w'.frozen? ⟨rb, 2, none⟩ = false)) := (fmtU U hUb W0 (htab.on hb)).mono fun e w' hh => ⟨hh.1, hh.2, rb_keep HRK.out hh.2⟩
  obtain ⟨sv, hsv⟩ : ∃ sv : ByteArray, sv = ⟨(decDigits U).toArray⟩ := ⟨_, rfl⟩
  rw [← hsv] at HFM hsp
  have HSP := hide hsp
  have HOK := hide hok
  clear hrb hW0 hrk hb hB0 h htab Z hok hok0 hl hsp hsv hU hU0 hUU hUI hUb
  go_enter Ybad.func16, Ybad.ntmps16
  go_upto_region 1 with fail
  rw [← HW0.out, ← HRB.out]
  go_wp2_with (first | (go_at_call 22; refine HP.out.mono ?_; rintro e w' ⟨rfl, rfl⟩) | (go_at_call 12; refine HFM.out.mono ?_; rintro e W1 ⟨rfl, hh, r0, r1, r2, y0, y1, y2⟩; have HQ := hide hh; clear hh))
  have KK := hide ((HQ.out.block rb (lt_of_block HRK.out)).trans HRK.out)
  obtain ⟨W2, hW2⟩ : ∃ W2, W2 = ((W1.setCell ⟨rb, 0, none⟩ (.string ⟨#[]⟩)).setCell ⟨rb, 1, none⟩ (.string sv)).setCell ⟨rb, 2, none⟩ (.bool false) := ⟨_, rfl⟩
  rw [← hW2]
  have hk2 : W2.heap[rb]? = some (.cells #[.string ⟨#[]⟩, .string sv, .bool false] 27) := by
    rw [hW2, hp_setCell_eq (hp_setCell_eq (hp_setCell_eq KK.out))]
    rfl
  try simp only [Exit.inBlock, Exit.then]
  refine bodyPost_ret (res_two rfl _ _ ⟨rb, 0, none⟩ _ rfl (load27 rb _ _ _ W2 (cell_at hk2 rfl) (cell_at hk2 rfl) (cell_at hk2 rfl))) rfl ?_
  refine ⟨sv, ?_, ?_, ?_⟩
  · rw [HOK.out]; rfl
  · intro t ht
    have : pvS 65 xs = some sv := HSP.out
    rw [this] at ht
    cases ht; rfl
  · have hr := HRB.out
    rw [hW2]
    exact Below.setCell (Below.setCell (Below.setCell (HB.out.trans (Below.mono HQ.out HB.out.size)) (by simp; omega) _) (by simp; omega) _) (by simp; omega) _

set_option maxRecDepth 100000 in
set_option maxHeartbeats 1600000 in
theorem pv_65_no (b off n c : Nat) (xs : List Int) (w : World) (h : Bytes w b off n xs) (hc : n ≤ c) (hn : n ≤ 1048576) (htab : Tab w) (a4 a6 : Addr) (Z : Zs w a4 a6) (h1 : 0 < n) (h8 : 8 < (dz xs).length) : Calls Ybad.prog 16 #[.int .u8 65, .slice (some ⟨b, off, none⟩) n c] w fun e w' => PV 65 xs w e w' := by
  obtain ⟨rb, hrb⟩ : ∃ rb, rb = w.heap.size := ⟨_, rfl⟩
  obtain ⟨W0, hW0⟩ : ∃ W0, W0 = w.alloc (.cells #[.string ⟨#[]⟩, .string ⟨#[]⟩, .bool false] 27) := ⟨_, rfl⟩
  have hrk : W0.heap[rb]? = some (.cells #[.string ⟨#[]⟩, .string ⟨#[]⟩, .bool false] 27) := by rw [hW0]; exact hp_alloc_at hrb
  have hb : Below w.heap.size w W0 := by rw [hW0]; exact (Below.refl _ _).alloc (Nat.le_refl _) _
  have hB0 := h.on hb
  have HRB := hide hrb
  have HW0 := hide hW0
  have HRK := hide hrk
  have HB := hide hb
  have hl := h.len
  have hsp : pvS 65 xs = some ⟨(decDigits (0)).toArray⟩ := by
    show some (⟨(decDigits (if 0 < xs.length ∧ (dz xs).length ≤ 8 then (uF 0 (dz xs)).toNat else 0)).toArray⟩ : ByteArray) = _
    rw [if_neg (by omega)]
  have hok0 : pvK 65 xs = decide (0 < xs.length ∧ (dz xs).length ≤ 8) := rfl
  have hok : pvK 65 xs = false := by rw [hok0]; exact decide_eq_false (by omega)
  have HP := hide (puint_no b off n c xs W0 hB0 hc h1 hn h8)
  have HFM : Hid (Calls Ybad.prog 12 #[.int .u64 0, .int .i64 10] W0 fun e w' => e = .returned (.string ⟨(decDigits (0)).toArray⟩) ∧ (Below W0.heap.size W0 w' ∧ w'.cell? ⟨rb, 0, none⟩ = some (.string ⟨#[]⟩) ∧ w'.cell? ⟨rb, 1, none⟩ = some (.string ⟨#[]⟩) ∧ w'.cell? ⟨rb, 2, none⟩ = some (.bool false) ∧ w'.frozen? ⟨rb, 0, none⟩ = false ∧ w'.frozen? ⟨rb, 1, none⟩ = false ∧ w'.frozen? ⟨rb, 2, none⟩ = false)) := (fmtU 0 (by omega) W0 (htab.on hb)).mono fun e w' hh => ⟨hh.1, hh.2, rb_keep HRK.out hh.2⟩
  obtain ⟨sv, hsv⟩ : ∃ sv : ByteArray, sv = ⟨(decDigits (0)).toArray⟩ := ⟨_, rfl⟩
  rw [← hsv] at HFM hsp
  have HSP := hide hsp
  have HOK := hide hok
  clear hrb hW0 hrk hb hB0 h htab Z hok hok0 hl hsp hsv
  go_enter Ybad.func16, Ybad.ntmps16
  go_upto_region 1 with fail
  rw [← HW0.out, ← HRB.out]
  go_wp2_with (first | (go_at_call 22; refine HP.out.mono ?_; rintro e w' ⟨rfl, rfl⟩) | (go_at_call 12; refine HFM.out.mono ?_; rintro e W1 ⟨rfl, hh, r0, r1, r2, y0, y1, y2⟩; have HQ := hide hh; clear hh))
  have KK := hide ((HQ.out.block rb (lt_of_block HRK.out)).trans HRK.out)
  obtain ⟨W2, hW2⟩ : ∃ W2, W2 = ((W1.setCell ⟨rb, 0, none⟩ (.string ⟨#[]⟩)).setCell ⟨rb, 1, none⟩ (.string sv)).setCell ⟨rb, 2, none⟩ (.bool false) := ⟨_, rfl⟩
  rw [← hW2]
  have hk2 : W2.heap[rb]? = some (.cells #[.string ⟨#[]⟩, .string sv, .bool false] 27) := by
    rw [hW2, hp_setCell_eq (hp_setCell_eq (hp_setCell_eq KK.out))]
    rfl
  try simp only [Exit.inBlock, Exit.then]
  refine bodyPost_ret (res_two rfl _ _ ⟨rb, 0, none⟩ _ rfl (load27 rb _ _ _ W2 (cell_at hk2 rfl) (cell_at hk2 rfl) (cell_at hk2 rfl))) rfl ?_
  refine ⟨sv, ?_, ?_, ?_⟩
  · rw [HOK.out]; rfl
  · intro t ht
    have : pvS 65 xs = some sv := HSP.out
    rw [this] at ht
    cases ht; rfl
  · have hr := HRB.out
    rw [hW2]
    exact Below.setCell (Below.setCell (Below.setCell (HB.out.trans (Below.mono HQ.out HB.out.size)) (by simp; omega) _) (by simp; omega) _) (by simp; omega) _

set_option maxRecDepth 100000 in
set_option maxHeartbeats 1600000 in
theorem pv_66_nil (b off n c : Nat) (xs : List Int) (w : World) (h : Bytes w b off n xs) (hc : n ≤ c) (hn : n ≤ 1048576) (htab : Tab w) (a4 a6 : Addr) (Z : Zs w a4 a6) (hz : n = 0) : Calls Ybad.prog 16 #[.int .u8 66, .slice (some ⟨b, off, none⟩) n c] w fun e w' => PV 66 xs w e w' := by
  obtain ⟨rb, hrb⟩ : ∃ rb, rb = w.heap.size := ⟨_, rfl⟩
  obtain ⟨W0, hW0⟩ : ∃ W0, W0 = w.alloc (.cells #[.string ⟨#[]⟩, .string ⟨#[]⟩, .bool false] 27) := ⟨_, rfl⟩
  have hrk : W0.heap[rb]? = some (.cells #[.string ⟨#[]⟩, .string ⟨#[]⟩, .bool false] 27) := by rw [hW0]; exact hp_alloc_at hrb
  have hb : Below w.heap.size w W0 := by rw [hW0]; exact (Below.refl _ _).alloc (Nat.le_refl _) _
  have hB0 := h.on hb
  have HRB := hide hrb
  have HW0 := hide hW0
  have HRK := hide hrk
  have HB := hide hb
  have hl := h.len
  have hsp : pvS 66 xs = some ⟨(decDigits (0)).toArray⟩ := by
    show some (⟨(decDigits (if 0 < xs.length ∧ (dz xs).length ≤ 8 then (uF 0 (dz xs)).toNat else 0)).toArray⟩ : ByteArray) = _
    rw [if_neg (by omega)]
  have hok0 : pvK 66 xs = decide (0 < xs.length ∧ (dz xs).length ≤ 8) := rfl
  have hok : pvK 66 xs = false := by rw [hok0]; exact decide_eq_false (by omega)
  subst hz
  have HP := hide (puint_nil (some ⟨b, off, none⟩) c W0)
  have HFM : Hid (Calls Ybad.prog 12 #[.int .u64 0, .int .i64 10] W0 fun e w' => e = .returned (.string ⟨(decDigits (0)).toArray⟩) ∧ (Below W0.heap.size W0 w' ∧ w'.cell? ⟨rb, 0, none⟩ = some (.string ⟨#[]⟩) ∧ w'.cell? ⟨rb, 1, none⟩ = some (.string ⟨#[]⟩) ∧ w'.cell? ⟨rb, 2, none⟩ = some (.bool false) ∧ w'.frozen? ⟨rb, 0, none⟩ = false ∧ w'.frozen? ⟨rb, 1, none⟩ = false ∧ w'.frozen? ⟨rb, 2, none⟩ = false)) := (fmtU 0 (by omega) W0 (htab.on hb)).mono fun e w' hh => ⟨hh.1, hh.2, rb_keep HRK.out hh.2⟩
  obtain ⟨sv, hsv⟩ : ∃ sv : ByteArray, sv = ⟨(decDigits (0)).toArray⟩ := ⟨_, rfl⟩
  rw [← hsv] at HFM hsp
  have HSP := hide hsp
  have HOK := hide hok
  clear hrb hW0 hrk hb hB0 h htab Z hok hok0 hl hsp hsv
  go_enter Ybad.func16, Ybad.ntmps16
  go_upto_region 1 with fail
  rw [← HW0.out, ← HRB.out]
  go_wp2_with (first | (go_at_call 22; refine HP.out.mono ?_; rintro e w' ⟨rfl, rfl⟩) | (go_at_call 12; refine HFM.out.mono ?_; rintro e W1 ⟨rfl, hh, r0, r1, r2, y0, y1, y2⟩; have HQ := hide hh; clear hh))
  have KK := hide ((HQ.out.block rb (lt_of_block HRK.out)).trans HRK.out)
  obtain ⟨W2, hW2⟩ : ∃ W2, W2 = ((W1.setCell ⟨rb, 0, none⟩ (.string ⟨#[]⟩)).setCell ⟨rb, 1, none⟩ (.string sv)).setCell ⟨rb, 2, none⟩ (.bool false) := ⟨_, rfl⟩
  rw [← hW2]
  have hk2 : W2.heap[rb]? = some (.cells #[.string ⟨#[]⟩, .string sv, .bool false] 27) := by
    rw [hW2, hp_setCell_eq (hp_setCell_eq (hp_setCell_eq KK.out))]
    rfl
  try simp only [Exit.inBlock, Exit.then]
  refine bodyPost_ret (res_two rfl _ _ ⟨rb, 0, none⟩ _ rfl (load27 rb _ _ _ W2 (cell_at hk2 rfl) (cell_at hk2 rfl) (cell_at hk2 rfl))) rfl ?_
  refine ⟨sv, ?_, ?_, ?_⟩
  · rw [HOK.out]; rfl
  · intro t ht
    have : pvS 66 xs = some sv := HSP.out
    rw [this] at ht
    cases ht; rfl
  · have hr := HRB.out
    rw [hW2]
    exact Below.setCell (Below.setCell (Below.setCell (HB.out.trans (Below.mono HQ.out HB.out.size)) (by simp; omega) _) (by simp; omega) _) (by simp; omega) _

set_option maxRecDepth 100000 in
set_option maxHeartbeats 1600000 in
theorem pv_66_ok (b off n c : Nat) (xs : List Int) (w : World) (h : Bytes w b off n xs) (hc : n ≤ c) (hn : n ≤ 1048576) (htab : Tab w) (a4 a6 : Addr) (Z : Zs w a4 a6) (h1 : 0 < n) (h8 : (dz xs).length ≤ 8) : Calls Ybad.prog 16 #[.int .u8 66, .slice (some ⟨b, off, none⟩) n c] w fun e w' => PV 66 xs w e w' := by
  obtain ⟨rb, hrb⟩ : ∃ rb, rb = w.heap.size := ⟨_, rfl⟩
  obtain ⟨W0, hW0⟩ : ∃ W0, W0 = w.alloc (.cells #[.string ⟨#[]⟩, .string ⟨#[]⟩, .bool false] 27) := ⟨_, rfl⟩
  have hrk : W0.heap[rb]? = some (.cells #[.string ⟨#[]⟩, .string ⟨#[]⟩, .bool false] 27) := by rw [hW0]; exact hp_alloc_at hrb
  have hb : Below w.heap.size w W0 := by rw [hW0]; exact (Below.refl _ _).alloc (Nat.le_refl _) _
  have hB0 := h.on hb
  have HRB := hide hrb
  have HW0 := hide hW0
  have HRK := hide hrk
  have HB := hide hb
  have hl := h.len
  have hsp : pvS 66 xs = some ⟨(decDigits ((uF 0 (dz xs)).toNat)).toArray⟩ := by
    show some (⟨(decDigits (if 0 < xs.length ∧ (dz xs).length ≤ 8 then (uF 0 (dz xs)).toNat else 0)).toArray⟩ : ByteArray) = _
    rw [if_pos (by omega)]
  have hok0 : pvK 66 xs = decide (0 < xs.length ∧ (dz xs).length ≤ 8) := rfl
  have hok : pvK 66 xs = true := by rw [hok0]; exact decide_eq_true (by omega)
  have HP := hide (puint_ok b off n c xs W0 hB0 hc h1 hn h8)
  have hU : uF 0 (dz xs) < 18446744073709551616 := by
    have h1 := (uF_bound (dz xs) (dz_byte h.byte)).2
    have h2 : (256 : Int) ^ (dz xs).length ≤ 256 ^ 8 := pow256 h8
    have e8 : (256 : Int) ^ 8 = 18446744073709551616 := by decide
    omega
  have hU0 := (uF_bound (dz xs) (dz_byte h.byte)).1
  obtain ⟨U, hUU⟩ : ∃ U : Nat, U = (uF 0 (dz xs)).toNat := ⟨_, rfl⟩
  have hUI : uF 0 (dz xs) = (U : Int) := by omega
  rw [hUI] at HP
  rw [← hUU] at hsp
  have hUb : U < 18446744073709551616 := by omega
  have HFM : Hid (Calls Ybad.prog 12 #[.int .u64 (U : Int), .int .i64 10] W0 fun e w' => e = .returned (.string ⟨(decDigits U).toArray⟩) ∧ (Below W0.heap.size W0 w' ∧ w'.cell? ⟨rb, 0, none⟩ = some (.string ⟨#[]⟩) ∧ w'.cell? ⟨rb, 1, none⟩ = some (.string ⟨#[]⟩) ∧ w'.cell? ⟨rb, 2, none⟩ = some (.bool false) ∧ w'.frozen? ⟨rb, 0, none⟩ = false ∧ w'.frozen? ⟨rb, 1, none⟩ = false ∧ w'.frozen? ⟨rb, 2, none⟩ = false)) := (fmtU U hUb W0 (htab.on hb)).mono fun e w' hh => ⟨hh.1, hh.2, rb_keep HRK.out hh.2⟩
  obtain ⟨sv, hsv⟩ : ∃ sv : ByteArray, sv = ⟨(decDigits U).toArray⟩ := ⟨_, rfl⟩
  rw [← hsv] at HFM hsp
  have HSP := hide hsp
  have HOK := hide hok
  clear hrb hW0 hrk hb hB0 h htab Z hok hok0 hl hsp hsv hU hU0 hUU hUI hUb
  go_enter Ybad.func16, Ybad.ntmps16
  go_upto_region 1 with fail
  rw [← HW0.out, ← HRB.out]
  go_wp2_with (first | (go_at_call 22; refine HP.out.mono ?_; rintro e w' ⟨rfl, rfl⟩) | (go_at_call 12; refine HFM.out.mono ?_; rintro e W1 ⟨rfl, hh, r0, r1, r2, y0, y1, y2⟩; have HQ := hide hh; clear hh))
  have KK := hide ((HQ.out.block rb (lt_of_block HRK.out)).trans HRK.out)
  obtain ⟨W2, hW2⟩ : ∃ W2, W2 = ((W1.setCell ⟨rb, 0, none⟩ (.string ⟨#[]⟩)).setCell ⟨rb, 1, none⟩ (.string sv)).setCell ⟨rb, 2, none⟩ (.bool false) := ⟨_, rfl⟩
  rw [← hW2]
  have hk2 : W2.heap[rb]? = some (.cells #[.string ⟨#[]⟩, .string sv, .bool false] 27) := by
    rw [hW2, hp_setCell_eq (hp_setCell_eq (hp_setCell_eq KK.out))]
    rfl
  try simp only [Exit.inBlock, Exit.then]
  refine bodyPost_ret (res_two rfl _ _ ⟨rb, 0, none⟩ _ rfl (load27 rb _ _ _ W2 (cell_at hk2 rfl) (cell_at hk2 rfl) (cell_at hk2 rfl))) rfl ?_
  refine ⟨sv, ?_, ?_, ?_⟩
  · rw [HOK.out]; rfl
  · intro t ht
    have : pvS 66 xs = some sv := HSP.out
    rw [this] at ht
    cases ht; rfl
  · have hr := HRB.out
    rw [hW2]
    exact Below.setCell (Below.setCell (Below.setCell (HB.out.trans (Below.mono HQ.out HB.out.size)) (by simp; omega) _) (by simp; omega) _) (by simp; omega) _

set_option maxRecDepth 100000 in
set_option maxHeartbeats 1600000 in
theorem pv_66_no (b off n c : Nat) (xs : List Int) (w : World) (h : Bytes w b off n xs) (hc : n ≤ c) (hn : n ≤ 1048576) (htab : Tab w) (a4 a6 : Addr) (Z : Zs w a4 a6) (h1 : 0 < n) (h8 : 8 < (dz xs).length) : Calls Ybad.prog 16 #[.int .u8 66, .slice (some ⟨b, off, none⟩) n c] w fun e w' => PV 66 xs w e w' := by
  obtain ⟨rb, hrb⟩ : ∃ rb, rb = w.heap.size := ⟨_, rfl⟩
  obtain ⟨W0, hW0⟩ : ∃ W0, W0 = w.alloc (.cells #[.string ⟨#[]⟩, .string ⟨#[]⟩, .bool false] 27) := ⟨_, rfl⟩
  have hrk : W0.heap[rb]? = some (.cells #[.string ⟨#[]⟩, .string ⟨#[]⟩, .bool false] 27) := by rw [hW0]; exact hp_alloc_at hrb
  have hb : Below w.heap.size w W0 := by rw [hW0]; exact (Below.refl _ _).alloc (Nat.le_refl _) _
  have hB0 := h.on hb
  have HRB := hide hrb
  have HW0 := hide hW0
  have HRK := hide hrk
  have HB := hide hb
  have hl := h.len
  have hsp : pvS 66 xs = some ⟨(decDigits (0)).toArray⟩ := by
    show some (⟨(decDigits (if 0 < xs.length ∧ (dz xs).length ≤ 8 then (uF 0 (dz xs)).toNat else 0)).toArray⟩ : ByteArray) = _
    rw [if_neg (by omega)]
  have hok0 : pvK 66 xs = decide (0 < xs.length ∧ (dz xs).length ≤ 8) := rfl
  have hok : pvK 66 xs = false := by rw [hok0]; exact decide_eq_false (by omega)
  have HP := hide (puint_no b off n c xs W0 hB0 hc h1 hn h8)
  have HFM : Hid (Calls Ybad.prog 12 #[.int .u64 0, .int .i64 10] W0 fun e w' => e = .returned (.string ⟨(decDigits (0)).toArray⟩) ∧ (Below W0.heap.size W0 w' ∧ w'.cell? ⟨rb, 0, none⟩ = some (.string ⟨#[]⟩) ∧ w'.cell? ⟨rb, 1, none⟩ = some (.string ⟨#[]⟩) ∧ w'.cell? ⟨rb, 2, none⟩ = some (.bool false) ∧ w'.frozen? ⟨rb, 0, none⟩ = false ∧ w'.frozen? ⟨rb, 1, none⟩ = false ∧ w'.frozen? ⟨rb, 2, none⟩ = false)) := (fmtU 0 (by omega) W0 (htab.on hb)).mono fun e w' hh => ⟨hh.1, hh.2, rb_keep HRK.out hh.2⟩
  obtain ⟨sv, hsv⟩ : ∃ sv : ByteArray, sv = ⟨(decDigits (0)).toArray⟩ := ⟨_, rfl⟩
  rw [← hsv] at HFM hsp
  have HSP := hide hsp
  have HOK := hide hok
  clear hrb hW0 hrk hb hB0 h htab Z hok hok0 hl hsp hsv
  go_enter Ybad.func16, Ybad.ntmps16
  go_upto_region 1 with fail
  rw [← HW0.out, ← HRB.out]
  go_wp2_with (first | (go_at_call 22; refine HP.out.mono ?_; rintro e w' ⟨rfl, rfl⟩) | (go_at_call 12; refine HFM.out.mono ?_; rintro e W1 ⟨rfl, hh, r0, r1, r2, y0, y1, y2⟩; have HQ := hide hh; clear hh))
  have KK := hide ((HQ.out.block rb (lt_of_block HRK.out)).trans HRK.out)
  obtain ⟨W2, hW2⟩ : ∃ W2, W2 = ((W1.setCell ⟨rb, 0, none⟩ (.string ⟨#[]⟩)).setCell ⟨rb, 1, none⟩ (.string sv)).setCell ⟨rb, 2, none⟩ (.bool false) := ⟨_, rfl⟩
  rw [← hW2]
  have hk2 : W2.heap[rb]? = some (.cells #[.string ⟨#[]⟩, .string sv, .bool false] 27) := by
    rw [hW2, hp_setCell_eq (hp_setCell_eq (hp_setCell_eq KK.out))]
    rfl
  try simp only [Exit.inBlock, Exit.then]
  refine bodyPost_ret (res_two rfl _ _ ⟨rb, 0, none⟩ _ rfl (load27 rb _ _ _ W2 (cell_at hk2 rfl) (cell_at hk2 rfl) (cell_at hk2 rfl))) rfl ?_
  refine ⟨sv, ?_, ?_, ?_⟩
  · rw [HOK.out]; rfl
  · intro t ht
    have : pvS 66 xs = some sv := HSP.out
    rw [this] at ht
    cases ht; rfl
  · have hr := HRB.out
    rw [hW2]
    exact Below.setCell (Below.setCell (Below.setCell (HB.out.trans (Below.mono HQ.out HB.out.size)) (by simp; omega) _) (by simp; omega) _) (by simp; omega) _

set_option maxRecDepth 100000 in
set_option maxHeartbeats 1600000 in
theorem pv_67_nil (b off n c : Nat) (xs : List Int) (w : World) (h : Bytes w b off n xs) (hc : n ≤ c) (hn : n ≤ 1048576) (htab : Tab w) (a4 a6 : Addr) (Z : Zs w a4 a6) (hz : n = 0) : Calls Ybad.prog 16 #[.int .u8 67, .slice (some ⟨b, off, none⟩) n c] w fun e w' => PV 67 xs w e w' := by
  obtain ⟨rb, hrb⟩ : ∃ rb, rb = w.heap.size := ⟨_, rfl⟩
  obtain ⟨W0, hW0⟩ : ∃ W0, W0 = w.alloc (.cells #[.string ⟨#[]⟩, .string ⟨#[]⟩, .bool false] 27) := ⟨_, rfl⟩
  have hrk : W0.heap[rb]? = some (.cells #[.string ⟨#[]⟩, .string ⟨#[]⟩, .bool false] 27) := by rw [hW0]; exact hp_alloc_at hrb
  have hb : Below w.heap.size w W0 := by rw [hW0]; exact (Below.refl _ _).alloc (Nat.le_refl _) _
  have hB0 := h.on hb
  have HRB := hide hrb
  have HW0 := hide hW0
  have HRK := hide hrk
  have HB := hide hb
  have hl := h.len
  have hsp : pvS 67 xs = some ⟨(decDigits (0)).toArray⟩ := by
    show some (⟨(decDigits (if 0 < xs.length ∧ (dz xs).length ≤ 8 then (uF 0 (dz xs)).toNat else 0)).toArray⟩ : ByteArray) = _
    rw [if_neg (by omega)]
  have hok0 : pvK 67 xs = decide (0 < xs.length ∧ (dz xs).length ≤ 8) := rfl
  have hok : pvK 67 xs = false := by rw [hok0]; exact decide_eq_false (by omega)
  subst hz
  have HP := hide (puint_nil (some ⟨b, off, none⟩) c W0)
  have HFM : Hid (Calls Ybad.prog 12 #[.int .u64 0, .int .i64 10] W0 fun e w' => e = .returned (.string ⟨(decDigits (0)).toArray⟩) ∧ (Below W0.heap.size W0 w' ∧ w'.cell? ⟨rb, 0, none⟩ = some (.string ⟨#[]⟩) ∧ w'.cell? ⟨rb, 1, none⟩ = some (.string ⟨#[]⟩) ∧ w'.cell? ⟨rb, 2, none⟩ = some (.bool false) ∧ w'.frozen? ⟨rb, 0, none⟩ = false ∧ w'.frozen? ⟨rb, 1, none⟩ = false ∧ w'.frozen? ⟨rb, 2, none⟩ = false)) := (fmtU 0 (by omega) W0 (htab.on hb)).mono fun e w' hh => ⟨hh.1, hh.2, rb_keep HRK.out hh.2⟩
  obtain ⟨sv, hsv⟩ : ∃ sv : ByteArray, sv = ⟨(decDigits (0)).toArray⟩ := ⟨_, rfl⟩
  rw [← hsv] at HFM hsp
  have HSP := hide hsp
  have HOK := hide hok
  clear hrb hW0 hrk hb hB0 h htab Z hok hok0 hl hsp hsv
  go_enter Ybad.func16, Ybad.ntmps16
  go_upto_region 1 with fail
  rw [← HW0.out, ← HRB.out]
  go_wp2_with (first | (go_at_call 22; refine HP.out.mono ?_; rintro e w' ⟨rfl, rfl⟩) | (go_at_call 12; refine HFM.out.mono ?_; rintro e W1 ⟨rfl, hh, r0, r1, r2, y0, y1, y2⟩; have HQ := hide hh; clear hh))
  have KK := hide ((HQ.out.block rb (lt_of_block HRK.out)).trans HRK.out)
  obtain ⟨W2, hW2⟩ : ∃ W2, W2 = ((W1.setCell ⟨rb, 0, none⟩ (.string ⟨#[]⟩)).setCell ⟨rb, 1, none⟩ (.string sv)).setCell ⟨rb, 2, none⟩ (.bool false) := ⟨_, rfl⟩
  rw [← hW2]
  have hk2 : W2.heap[rb]? = some (.cells #[.string ⟨#[]⟩, .string sv, .bool false] 27) := by
    rw [hW2, hp_setCell_eq (hp_setCell_eq (hp_setCell_eq KK.out))]
    rfl
  try simp only [Exit.inBlock, Exit.then]
  refine bodyPost_ret (res_two rfl _ _ ⟨rb, 0, none⟩ _ rfl (load27 rb _ _ _ W2 (cell_at hk2 rfl) (cell_at hk2 rfl) (cell_at hk2 rfl))) rfl ?_
  refine ⟨sv, ?_, ?_, ?_⟩
  · rw [HOK.out]; rfl
  · intro t ht
    have : pvS 67 xs = some sv := HSP.out
    rw [this] at ht
    cases ht; rfl
  · have hr := HRB.out
    rw [hW2]
    exact Below.setCell (Below.setCell (Below.setCell (HB.out.trans (Below.mono HQ.out HB.out.size)) (by simp; omega) _) (by simp; omega) _) (by simp; omega) _

set_option maxRecDepth 100000 in
set_option maxHeartbeats 1600000 in
theorem pv_67_ok (b off n c : Nat) (xs : List Int) (w : World) (h : Bytes w b off n xs) (hc : n ≤ c) (hn : n ≤ 1048576) (htab : Tab w) (a4 a6 : Addr) (Z : Zs w a4 a6) (h1 : 0 < n) (h8 : (dz xs).length ≤ 8) : Calls Ybad.prog 16 #[.int .u8 67, .slice (some ⟨b, off, none⟩) n c] w fun e w' => PV 67 xs w e w' := by
  obtain ⟨rb, hrb⟩ : ∃ rb, rb = w.heap.size := ⟨_, rfl⟩
  obtain ⟨W0, hW0⟩ : ∃ W0, W0 = w.alloc (.cells #[.string ⟨#[]⟩, .string ⟨#[]⟩, .bool false] 27) := ⟨_, rfl⟩
  have hrk : W0.heap[rb]? = some (.cells #[.string ⟨#[]⟩, .string ⟨#[]⟩, .bool false] 27) := by rw [hW0]; exact hp_alloc_at hrb
  have hb : Below w.heap.size w W0 := by rw [hW0]; exact (Below.refl _ _).alloc (Nat.le_refl _) _
  have hB0 := h.on hb
  have HRB := hide hrb
  have HW0 := hide hW0
  have HRK := hide hrk
  have HB := hide hb
  have hl := h.len
  have hsp : pvS 67 xs = some ⟨(decDigits ((uF 0 (dz xs)).toNat)).toArray⟩ := by
    show some (⟨(decDigits (if 0 < xs.length ∧ (dz xs).length ≤ 8 then (uF 0 (dz xs)).toNat else 0)).toArray⟩ : ByteArray) = _
    rw [if_pos (by omega)]
  have hok0 : pvK 67 xs = decide (0 < xs.length ∧ (dz xs).length ≤ 8) := rfl
  have hok : pvK 67 xs = true := by rw [hok0]; exact decide_eq_true (by omega)
  have HP := hide (puint_ok b off n c xs W0 hB0 hc h1 hn h8)
  have hU : uF 0 (dz xs) < 18446744073709551616 := by
    have h1 := (uF_bound (dz xs) (dz_byte h.byte)).2
    have h2 : (256 : Int) ^ (dz xs).length ≤ 256 ^ 8 := pow256 h8
    have e8 : (256 : Int) ^ 8 = 18446744073709551616 := by decide
    omega
  have hU0 := (uF_bound (dz xs) (dz_byte h.byte)).1
  obtain ⟨U, hUU⟩ : ∃ U : Nat, U = (uF 0 (dz xs)).toNat := ⟨_, rfl⟩
  have hUI : uF 0 (dz xs) = (U : Int) := by omega
  rw [hUI] at HP
  rw [← hUU] at hsp
  have hUb : U < 18446744073709551616 := by omega
  have HFM : Hid (Calls Ybad.prog 12 #[.int .u64 (U : Int), .int .i64 10] W0 fun e w' => e = .returned (.string ⟨(decDigits U).toArray⟩) ∧ (Below W0.heap.size W0 w' ∧ w'.cell? ⟨rb, 0, none⟩ = some (.string ⟨#[]⟩) ∧ w'.cell? ⟨rb, 1, none⟩ = some (.string ⟨#[]⟩) ∧ w'.cell? ⟨rb, 2, none⟩ = some (.bool false) ∧ w'.frozen? ⟨rb, 0, none⟩ = false ∧ w'.frozen? ⟨rb, 1, none⟩ = false ∧ w'.frozen? ⟨rb, 2, none⟩ = false)) := (fmtU U hUb W0 (htab.on hb)).mono fun e w' hh => ⟨hh.1, hh.2, rb_keep HRK.out hh.2⟩
  obtain ⟨sv, hsv⟩ : ∃ sv : ByteArray, sv = ⟨(decDigits U).toArray⟩ := ⟨_, rfl⟩
  rw [← hsv] at HFM hsp
  have HSP := hide hsp
  have HOK := hide hok
  clear hrb hW0 hrk hb hB0 h htab Z hok hok0 hl hsp hsv hU hU0 hUU hUI hUb
  go_enter Ybad.func16, Ybad.ntmps16
  go_upto_region 1 with fail
  rw [← HW0.out, ← HRB.out]
  go_wp2_with (first | (go_at_call 22; refine HP.out.mono ?_; rintro e w' ⟨rfl, rfl⟩) | (go_at_call 12; refine HFM.out.mono ?_; rintro e W1 ⟨rfl, hh, r0, r1, r2, y0, y1, y2⟩; have HQ := hide hh; clear hh))
  have KK := hide ((HQ.out.block rb (lt_of_block HRK.out)).trans HRK.out)
  obtain ⟨W2, hW2⟩ : ∃ W2, W2 = ((W1.setCell ⟨rb, 0, none⟩ (.string ⟨#[]⟩)).setCell ⟨rb, 1, none⟩ (.string sv)).setCell ⟨rb, 2, none⟩ (.bool false) := ⟨_, rfl⟩
  rw [← hW2]
  have hk2 : W2.heap[rb]? = some (.cells #[.string ⟨#[]⟩, .string sv, .bool false] 27) := by
    rw [hW2, hp_setCell_eq (hp_setCell_eq (hp_setCell_eq KK.out))]
    rfl
  try simp only [Exit.inBlock, Exit.then]
  refine bodyPost_ret (res_two rfl _ _ ⟨rb, 0, none⟩ _ rfl (load27 rb _ _ _ W2 (cell_at hk2 rfl) (cell_at hk2 rfl) (cell_at hk2 rfl))) rfl ?_
  refine ⟨sv, ?_, ?_, ?_⟩
  · rw [HOK.out]; rfl
  · intro t ht
    have : pvS 67 xs = some sv := HSP.out
    rw [this] at ht
    cases ht; rfl
  · have hr := HRB.out
    rw [hW2]
    exact Below.setCell (Below.setCell (Below.setCell (HB.out.trans (Below.mono HQ.out HB.out.size)) (by simp; omega) _) (by simp; omega) _) (by simp; omega) _

set_option maxRecDepth 100000 in
set_option maxHeartbeats 1600000 in
theorem pv_67_no (b off n c : Nat) (xs : List Int) (w : World) (h : Bytes w b off n xs) (hc : n ≤ c) (hn : n ≤ 1048576) (htab : Tab w) (a4 a6 : Addr) (Z : Zs w a4 a6) (h1 : 0 < n) (h8 : 8 < (dz xs).length) : Calls Ybad.prog 16 #[.int .u8 67, .slice (some ⟨b, off, none⟩) n c] w fun e w' => PV 67 xs w e w' := by
  obtain ⟨rb, hrb⟩ : ∃ rb, rb = w.heap.size := ⟨_, rfl⟩
  obtain ⟨W0, hW0⟩ : ∃ W0, W0 = w.alloc (.cells #[.string ⟨#[]⟩, .string ⟨#[]⟩, .bool false] 27) := ⟨_, rfl⟩
  have hrk : W0.heap[rb]? = some (.cells #[.string ⟨#[]⟩, .string ⟨#[]⟩, .bool false] 27) := by rw [hW0]; exact hp_alloc_at hrb
  have hb : Below w.heap.size w W0 := by rw [hW0]; exact (Below.refl _ _).alloc (Nat.le_refl _) _
  have hB0 := h.on hb
  have HRB := hide hrb
  have HW0 := hide hW0
  have HRK := hide hrk
  have HB := hide hb
  have hl := h.len
  have hsp : pvS 67 xs = some ⟨(decDigits (0)).toArray⟩ := by
    show some (⟨(decDigits (if 0 < xs.length ∧ (dz xs).length ≤ 8 then (uF 0 (dz xs)).toNat else 0)).toArray⟩ : ByteArray) = _
    rw [if_neg (by omega)]
  have hok0 : pvK 67 xs = decide (0 < xs.length ∧ (dz xs).length ≤ 8) := rfl
  have hok : pvK 67 xs = false := by rw [hok0]; exact decide_eq_false (by omega)
  have HP := hide (puint_no b off n c xs W0 hB0 hc h1 hn h8)
  have HFM : Hid (Calls Ybad.prog 12 #[.int .u64 0, .int .i64 10] W0 fun e w' => e = .returned (.string ⟨(decDigits (0)).toArray⟩) ∧ (Below W0.heap.size W0 w' ∧ w'.cell? ⟨rb, 0, none⟩ = some (.string ⟨#[]⟩) ∧ w'.cell? ⟨rb, 1, none⟩ = some (.string ⟨#[]⟩) ∧ w'.cell? ⟨rb, 2, none⟩ = some (.bool false) ∧ w'.frozen? ⟨rb, 0, none⟩ = false ∧ w'.frozen? ⟨rb, 1, none⟩ = false ∧ w'.frozen? ⟨rb, 2, none⟩ = false)) := (fmtU 0 (by omega) W0 (htab.on hb)).mono fun e w' hh => ⟨hh.1, hh.2, rb_keep HRK.out hh.2⟩
  obtain ⟨sv, hsv⟩ : ∃ sv : ByteArray, sv = ⟨(decDigits (0)).toArray⟩ := ⟨_, rfl⟩
  rw [← hsv] at HFM hsp
  have HSP := hide hsp
  have HOK := hide hok
  clear hrb hW0 hrk hb hB0 h htab Z hok hok0 hl hsp hsv
  go_enter Ybad.func16, Ybad.ntmps16
  go_upto_region 1 with fail
  rw [← HW0.out, ← HRB.out]
  go_wp2_with (first | (go_at_call 22; refine HP.out.mono ?_; rintro e w' ⟨rfl, rfl⟩) | (go_at_call 12; refine HFM.out.mono ?_; rintro e W1 ⟨rfl, hh, r0, r1, r2, y0, y1, y2⟩; have HQ := hide hh; clear hh))
  have KK := hide ((HQ.out.block rb (lt_of_block HRK.out)).trans HRK.out)
  obtain ⟨W2, hW2⟩ : ∃ W2, W2 = ((W1.setCell ⟨rb, 0, none⟩ (.string ⟨#[]⟩)).setCell ⟨rb, 1, none⟩ (.string sv)).setCell ⟨rb, 2, none⟩ (.bool false) := ⟨_, rfl⟩
  rw [← hW2]
  have hk2 : W2.heap[rb]? = some (.cells #[.string ⟨#[]⟩, .string sv, .bool false] 27) := by
    rw [hW2, hp_setCell_eq (hp_setCell_eq (hp_setCell_eq KK.out))]
    rfl
  try simp only [Exit.inBlock, Exit.then]
  refine bodyPost_ret (res_two rfl _ _ ⟨rb, 0, none⟩ _ rfl (load27 rb _ _ _ W2 (cell_at hk2 rfl) (cell_at hk2 rfl) (cell_at hk2 rfl))) rfl ?_
  refine ⟨sv, ?_, ?_, ?_⟩
  · rw [HOK.out]; rfl
  · intro t ht
    have : pvS 67 xs = some sv := HSP.out
    rw [this] at ht
    cases ht; rfl
  · have hr := HRB.out
    rw [hW2]
    exact Below.setCell (Below.setCell (Below.setCell (HB.out.trans (Below.mono HQ.out HB.out.size)) (by simp; omega) _) (by simp; omega) _) (by simp; omega) _

set_option maxRecDepth 100000 in
set_option maxHeartbeats 1600000 in
theorem pv_70_nil (b off n c : Nat) (xs : List Int) (w : World) (h : Bytes w b off n xs) (hc : n ≤ c) (hn : n ≤ 1048576) (htab : Tab w) (a4 a6 : Addr) (Z : Zs w a4 a6) (hz : n = 0) : Calls Ybad.prog 16 #[.int .u8 70, .slice (some ⟨b, off, none⟩) n c] w fun e w' => PV 70 xs w e w' := by
  obtain ⟨rb, hrb⟩ : ∃ rb, rb = w.heap.size := ⟨_, rfl⟩
  obtain ⟨W0, hW0⟩ : ∃ W0, W0 = w.alloc (.cells #[.string ⟨#[]⟩, .string ⟨#[]⟩, .bool false] 27) := ⟨_, rfl⟩
  have hrk : W0.heap[rb]? = some (.cells #[.string ⟨#[]⟩, .string ⟨#[]⟩, .bool false] 27) := by rw [hW0]; exact hp_alloc_at hrb
  have hb : Below w.heap.size w W0 := by rw [hW0]; exact (Below.refl _ _).alloc (Nat.le_refl _) _
  have hB0 := h.on hb
  have HRB := hide hrb
  have HW0 := hide hW0
  have HRK := hide hrk
  have HB := hide hb
  have hl := h.len
  have hsp : pvS 70 xs = some ⟨(decDigits (0)).toArray⟩ := by
    show some (⟨(decDigits (if 0 < xs.length ∧ (dz xs).length ≤ 8 then (uF 0 (dz xs)).toNat else 0)).toArray⟩ : ByteArray) = _
    rw [if_neg (by omega)]
  have hok0 : pvK 70 xs = decide (0 < xs.length ∧ (dz xs).length ≤ 8) := rfl
  have hok : pvK 70 xs = false := by rw [hok0]; exact decide_eq_false (by omega)
  subst hz
  have HP := hide (puint_nil (some ⟨b, off, none⟩) c W0)
  have HFM : Hid (Calls Ybad.prog 12 #[.int .u64 0, .int .i64 10] W0 fun e w' => e = .returned (.string ⟨(decDigits (0)).toArray⟩) ∧ (Below W0.heap.size W0 w' ∧ w'.cell? ⟨rb, 0, none⟩ = some (.string ⟨#[]⟩) ∧ w'.cell? ⟨rb, 1, none⟩ = some (.string ⟨#[]⟩) ∧ w'.cell? ⟨rb, 2, none⟩ = some (.bool false) ∧ w'.frozen? ⟨rb, 0, none⟩ = false ∧ w'.frozen? ⟨rb, 1, none⟩ = false ∧ w'.frozen? ⟨rb, 2, none⟩ = false)) := (fmtU 0 (by omega) W0 (htab.on hb)).mono fun e w' hh => ⟨hh.1, hh.2, rb_keep HRK.out hh.2⟩
  obtain ⟨sv, hsv⟩ : ∃ sv : ByteArray, sv = ⟨(decDigits (0)).toArray⟩ := ⟨_, rfl⟩
  rw [← hsv] at HFM hsp
  have HSP := hide hsp
  have HOK := hide hok
  clear hrb hW0 hrk hb hB0 h htab Z hok hok0 hl hsp hsv
  go_enter Ybad.func16, Ybad.ntmps16
  go_upto_region 1 with fail
  rw [← HW0.out, ← HRB.out]
  go_wp2_with (first | (go_at_call 22; refine HP.out.mono ?_; rintro e w' ⟨rfl, rfl⟩) | (go_at_call 12; refine HFM.out.mono ?_; rintro e W1 ⟨rfl, hh, r0, r1, r2, y0, y1, y2⟩; have HQ := hide hh; clear hh))
  have KK := hide ((HQ.out.block rb (lt_of_block HRK.out)).trans HRK.out)
  obtain ⟨W2, hW2⟩ : ∃ W2, W2 = ((W1.setCell ⟨rb, 0, none⟩ (.string ⟨#[]⟩)).setCell ⟨rb, 1, none⟩ (.string sv)).setCell ⟨rb, 2, none⟩ (.bool false) := ⟨_, rfl⟩
  rw [← hW2]
  have hk2 : W2.heap[rb]? = some (.cells #[.string ⟨#[]⟩, .string sv, .bool false] 27) := by
    rw [hW2, hp_setCell_eq (hp_setCell_eq (hp_setCell_eq KK.out))]
    rfl
  try simp only [Exit.inBlock, Exit.then]
  refine bodyPost_ret (res_two rfl _ _ ⟨rb, 0, none⟩ _ rfl (load27 rb _ _ _ W2 (cell_at hk2 rfl) (cell_at hk2 rfl) (cell_at hk2 rfl))) rfl ?_
  refine ⟨sv, ?_, ?_, ?_⟩
  · rw [HOK.out]; rfl
  · intro t ht
    have : pvS 70 xs = some sv := HSP.out
    rw [this] at ht
    cases ht; rfl
  · have hr := HRB.out
    rw [hW2]
    exact Below.setCell (Below.setCell (Below.setCell (HB.out.trans (Below.mono HQ.out HB.out.size)) (by simp; omega) _) (by simp; omega) _) (by simp; omega) _

set_option maxRecDepth 100000 in
set_option maxHeartbeats 1600000 in
theorem pv_70_ok (b off n c : Nat) (xs : List Int) (w : World) (h : Bytes w b off n xs) (hc : n ≤ c) (hn : n ≤ 1048576) (htab : Tab w) (a4 a6 : Addr) (Z : Zs w a4 a6) (h1 : 0 < n) (h8 : (dz xs).length ≤ 8) : Calls Ybad.prog 16 #[.int .u8 70, .slice (some ⟨b, off, none⟩) n c] w fun e w' => PV 70 xs w e w' := by
  obtain ⟨rb, hrb⟩ : ∃ rb, rb = w.heap.size := ⟨_, rfl⟩
  obtain ⟨W0, hW0⟩ : ∃ W0, W0 = w.alloc (.cells #[.string ⟨#[]⟩, .string ⟨#[]⟩, .bool false] 27) := ⟨_, rfl⟩
  have hrk : W0.heap[rb]? = some (.cells #[.string ⟨#[]⟩, .string ⟨#[]⟩, .bool false] 27) := by rw [hW0]; exact hp_alloc_at hrb
  have hb : Below w.heap.size w W0 := by rw [hW0]; exact (Below.refl _ _).alloc (Nat.le_refl _) _
  have hB0 := h.on hb
  have HRB := hide hrb
  have HW0 := hide hW0
  have HRK := hide hrk
  have HB := hide hb
  have hl := h.len
  have hsp : pvS 70 xs = some ⟨(decDigits ((uF 0 (dz xs)).toNat)).toArray⟩ := by
    show some (⟨(decDigits (if 0 < xs.length ∧ (dz xs).length ≤ 8 then (uF 0 (dz xs)).toNat else 0)).toArray⟩ : ByteArray) = _
    rw [if_pos (by omega)]
  have hok0 : pvK 70 xs = decide (0 < xs.length ∧ (dz xs).length ≤ 8) := rfl
  have hok : pvK 70 xs = true := by rw [hok0]; exact decide_eq_true (by omega)
  have HP := hide (puint_ok b off n c xs W0 hB0 hc h1 hn h8)
  have hU : uF 0 (dz xs) < 18446744073709551616 := by
    have h1 := (uF_bound (dz xs) (dz_byte h.byte)).2
    have h2 : (256 : Int) ^ (dz xs).length ≤ 256 ^ 8 := pow256 h8
    have e8 : (256 : Int) ^ 8 = 18446744073709551616 := by decide
    omega
  have hU0 := (uF_bound (dz xs) (dz_byte h.byte)).1
  obtain ⟨U, hUU⟩ : ∃ U : Nat, U = (uF 0 (dz xs)).toNat := ⟨_, rfl⟩
  have hUI : uF 0 (dz xs) = (U : Int) := by omega
  rw [hUI] at HP
  rw [← hUU] at hsp
  have hUb : U < 18446744073709551616 := by omega
  have HFM : Hid (Calls Ybad.prog 12 #[.int .u64 (U : Int), .int .i64 10] W0 fun e w' => e = .returned (.string ⟨(decDigits U).toArray⟩) ∧ (Below W0.heap.size W0 w' ∧ w'.cell? ⟨rb, 0, none⟩ = some (.string ⟨#[]⟩) ∧ w'.cell? ⟨rb, 1, none⟩ = some (.string ⟨#[]⟩) ∧ w'.cell? ⟨rb, 2, none⟩ = some (.bool false) ∧ w'.frozen? ⟨rb, 0, none⟩ = false ∧ w'.frozen? ⟨rb, 1, none⟩ = false ∧ w'.frozen? ⟨rb, 2, none⟩ = false)) := (fmtU U hUb W0 (htab.on hb)).mono fun e w' hh => ⟨hh.1, hh.2, rb_keep HRK.out hh.2⟩
  obtain ⟨sv, hsv⟩ : ∃ sv : ByteArray, sv = ⟨(decDigits U).toArray⟩ := ⟨_, rfl⟩
  rw [← hsv] at HFM hsp
  have HSP := hide hsp
  have HOK := hide hok
  clear hrb hW0 hrk hb hB0 h htab Z hok hok0 hl hsp hsv hU hU0 hUU hUI hUb
  go_enter Ybad.func16, Ybad.ntmps16
  go_upto_region 1 with fail
  rw [← HW0.out, ← HRB.out]
  go_wp2_with (first | (go_at_call 22; refine HP.out.mono ?_; rintro e w' ⟨rfl, rfl⟩) | (go_at_call 12; refine HFM.out.mono ?_; rintro e W1 ⟨rfl, hh, r0, r1, r2, y0, y1, y2⟩; have HQ := hide hh; clear hh))
  have KK := hide ((HQ.out.block rb (lt_of_block HRK.out)).trans HRK.out)
  obtain ⟨W2, hW2⟩ : ∃ W2, W2 = ((W1.setCell ⟨rb, 0, none⟩ (.string ⟨#[]⟩)).setCell ⟨rb, 1, none⟩ (.string sv)).setCell ⟨rb, 2, none⟩ (.bool false) := ⟨_, rfl⟩
  rw [← hW2]
  have hk2 : W2.heap[rb]? = some (.cells #[.string ⟨#[]⟩, .string sv, .bool false] 27) := by
    rw [hW2, hp_setCell_eq (hp_setCell_eq (hp_setCell_eq KK.out))]
    rfl
  try simp only [Exit.inBlock, Exit.then]
  refine bodyPost_ret (res_two rfl _ _ ⟨rb, 0, none⟩ _ rfl (load27 rb _ _ _ W2 (cell_at hk2 rfl) (cell_at hk2 rfl) (cell_at hk2 rfl))) rfl ?_
  refine ⟨sv, ?_, ?_, ?_⟩
  · rw [HOK.out]; rfl
  · intro t ht
    have : pvS 70 xs = some sv := HSP.out
    rw [this] at ht
    cases ht; rfl
  · have hr := HRB.out
    rw [hW2]
    exact Below.setCell (Below.setCell (Below.setCell (HB.out.trans (Below.mono HQ.out HB.out.size)) (by simp; omega) _) (by simp; omega) _) (by simp; omega) _

set_option maxRecDepth 100000 in
set_option maxHeartbeats 1600000 in
theorem pv_70_no (b off n c : Nat) (xs : List Int) (w : World) (h : Bytes w b off n xs) (hc : n ≤ c) (hn : n ≤ 1048576) (htab : Tab w) (a4 a6 : Addr) (Z : Zs w a4 a6) (h1 : 0 < n) (h8 : 8 < (dz xs).length) : Calls Ybad.prog 16 #[.int .u8 70, .slice (some ⟨b, off, none⟩) n c] w fun e w' => PV 70 xs w e w' := by
  obtain ⟨rb, hrb⟩ : ∃ rb, rb = w.heap.size := ⟨_, rfl⟩
  obtain ⟨W0, hW0⟩ : ∃ W0, W0 = w.alloc (.cells #[.string ⟨#[]⟩, .string ⟨#[]⟩, .bool false] 27) := ⟨_, rfl⟩
  have hrk : W0.heap[rb]? = some (.cells #[.string ⟨#[]⟩, .string ⟨#[]⟩, .bool false] 27) := by rw [hW0]; exact hp_alloc_at hrb
  have hb : Below w.heap.size w W0 := by rw [hW0]; exact (Below.refl _ _).alloc (Nat.le_refl _) _
  have hB0 := h.on hb
  have HRB := hide hrb
  have HW0 := hide hW0
  have HRK := hide hrk
  have HB := hide hb
  have hl := h.len
  have hsp : pvS 70 xs = some ⟨(decDigits (0)).toArray⟩ := by
    show some (⟨(decDigits (if 0 < xs.length ∧ (dz xs).length ≤ 8 then (uF 0 (dz xs)).toNat else 0)).toArray⟩ : ByteArray) = _
    rw [if_neg (by omega)]
  have hok0 : pvK 70 xs = decide (0 < xs.length ∧ (dz xs).length ≤ 8) := rfl
  have hok : pvK 70 xs = false := by rw [hok0]; exact decide_eq_false (by omega)
  have HP := hide (puint_no b off n c xs W0 hB0 hc h1 hn h8)
  have HFM : Hid (Calls Ybad.prog 12 #[.int .u64 0, .int .i64 10] W0 fun e w' => e = .returned (.string ⟨(decDigits (0)).toArray⟩) ∧ (Below W0.heap.size W0 w' ∧ w'.cell? ⟨rb, 0, none⟩ = some (.string ⟨#[]⟩) ∧ w'.cell? ⟨rb, 1, none⟩ = some (.string ⟨#[]⟩) ∧ w'.cell? ⟨rb, 2, none⟩ = some (.bool false) ∧ w'.frozen? ⟨rb, 0, none⟩ = false ∧ w'.frozen? ⟨rb, 1, none⟩ = false ∧ w'.frozen? ⟨rb, 2, none⟩ = false)) := (fmtU 0 (by omega) W0 (htab.on hb)).mono fun e w' hh => ⟨hh.1, hh.2, rb_keep HRK.out hh.2⟩
  obtain ⟨sv, hsv⟩ : ∃ sv : ByteArray, sv = ⟨(decDigits (0)).toArray⟩ := ⟨_, rfl⟩
  rw [← hsv] at HFM hsp
  have HSP := hide hsp
  have HOK := hide hok
  clear hrb hW0 hrk hb hB0 h htab Z hok hok0 hl hsp hsv
  go_enter Ybad.func16, Ybad.ntmps16
  go_upto_region 1 with fail
  rw [← HW0.out, ← HRB.out]
  go_wp2_with (first | (go_at_call 22; refine HP.out.mono ?_; rintro e w' ⟨rfl, rfl⟩) | (go_at_call 12; refine HFM.out.mono ?_; rintro e W1 ⟨rfl, hh, r0, r1, r2, y0, y1, y2⟩; have HQ := hide hh; clear hh))
  have KK := hide ((HQ.out.block rb (lt_of_block HRK.out)).trans HRK.out)
  obtain ⟨W2, hW2⟩ : ∃ W2, W2 = ((W1.setCell ⟨rb, 0, none⟩ (.string ⟨#[]⟩)).setCell ⟨rb, 1, none⟩ (.string sv)).setCell ⟨rb, 2, none⟩ (.bool false) := ⟨_, rfl⟩
  rw [← hW2]
  have hk2 : W2.heap[rb]? = some (.cells #[.string ⟨#[]⟩, .string sv, .bool false] 27) := by
    rw [hW2, hp_setCell_eq (hp_setCell_eq (hp_setCell_eq KK.out))]
    rfl
  try simp only [Exit.inBlock, Exit.then]
  refine bodyPost_ret (res_two rfl _ _ ⟨rb, 0, none⟩ _ rfl (load27 rb _ _ _ W2 (cell_at hk2 rfl) (cell_at hk2 rfl) (cell_at hk2 rfl))) rfl ?_
  refine ⟨sv, ?_, ?_, ?_⟩
  · rw [HOK.out]; rfl
  · intro t ht
    have : pvS 70 xs = some sv := HSP.out
    rw [this] at ht
    cases ht; rfl
  · have hr := HRB.out
    rw [hW2]
    exact Below.setCell (Below.setCell (Below.setCell (HB.out.trans (Below.mono HQ.out HB.out.size)) (by simp; omega) _) (by simp; omega) _) (by simp; omega) _

set_option maxRecDepth 100000 in
set_option maxHeartbeats 1600000 in
theorem pv_4 (b off n c : Nat) (xs : List Int) (w : World) (h : Bytes w b off n xs) (hc : n ≤ c) (hn : n ≤ 1048576) (htab : Tab w) (a4 a6 : Addr) (Z : Zs w a4 a6) : Calls Ybad.prog 16 #[.int .u8 4, .slice (some ⟨b, off, none⟩) n c] w fun e w' => PV 4 xs w e w' := by
  obtain ⟨rb, hrb⟩ : ∃ rb, rb = w.heap.size := ⟨_, rfl⟩
  obtain ⟨W0, hW0⟩ : ∃ W0, W0 = w.alloc (.cells #[.string ⟨#[]⟩, .string ⟨#[]⟩, .bool false] 27) := ⟨_, rfl⟩
  have hrk : W0.heap[rb]? = some (.cells #[.string ⟨#[]⟩, .string ⟨#[]⟩, .bool false] 27) := by rw [hW0]; exact hp_alloc_at hrb
  have hb : Below w.heap.size w W0 := by rw [hW0]; exact (Below.refl _ _).alloc (Nat.le_refl _) _
  have hB0 := h.on hb
  have HRB := hide hrb
  have HW0 := hide hW0
  have HRK := hide hrk
  have HB := hide hb
  have hsp : pvS 4 xs = some (strOf xs) := rfl
  have hcv := conv_bytes b off n c xs W0 hB0
  obtain ⟨sv, hsv⟩ : ∃ sv : ByteArray, sv = strOf xs := ⟨_, rfl⟩
  rw [← hsv] at hcv hsp
  have HSP := hide hsp
  have HQ : Hid (Below W0.heap.size W0 W0) := Below.refl _ _
  clear hrb hW0 hrk hb hB0 h htab Z hsp hsv
  go_enter Ybad.func16, Ybad.ntmps16
  go_upto_region 1 with fail
  rw [← HW0.out, ← HRB.out]
  have kk1 := (HQ.out.block rb (lt_of_block HRK.out)).trans HRK.out
  have r0 : W0.cell? ⟨rb, 0, none⟩ = some (.string ⟨#[]⟩) := cell_at kk1 rfl
  have r1 : W0.cell? ⟨rb, 1, none⟩ = some (.string ⟨#[]⟩) := cell_at kk1 rfl
  have r2 : W0.cell? ⟨rb, 2, none⟩ = some (.bool false) := cell_at kk1 rfl
  have y0 : W0.frozen? ⟨rb, 0, none⟩ = false := frozen_at kk1
  have y1 : W0.frozen? ⟨rb, 1, none⟩ = false := frozen_at kk1
  have y2 : W0.frozen? ⟨rb, 2, none⟩ = false := frozen_at kk1
  have KK := hide kk1
  clear kk1
  go_wp2_with fail
  obtain ⟨W2, hW2⟩ : ∃ W2, W2 = ((W0.setCell ⟨rb, 0, none⟩ (.string ⟨#[]⟩)).setCell ⟨rb, 1, none⟩ (.string sv)).setCell ⟨rb, 2, none⟩ (.bool false) := ⟨_, rfl⟩
  rw [← hW2]
  have hk2 : W2.heap[rb]? = some (.cells #[.string ⟨#[]⟩, .string sv, .bool false] 27) := by
    rw [hW2, hp_setCell_eq (hp_setCell_eq (hp_setCell_eq KK.out))]
    rfl
  try simp only [Exit.inBlock, Exit.then]
  refine bodyPost_ret (res_two rfl _ _ ⟨rb, 0, none⟩ _ rfl (load27 rb _ _ _ W2 (cell_at hk2 rfl) (cell_at hk2 rfl) (cell_at hk2 rfl))) rfl ?_
  refine ⟨sv, ?_, ?_, ?_⟩
  · rfl
  · intro t ht
    have : pvS 4 xs = some sv := HSP.out
    rw [this] at ht
    cases ht; rfl
  · have hr := HRB.out
    rw [hW2]
    exact Below.setCell (Below.setCell (Below.setCell (HB.out.trans (Below.mono HQ.out HB.out.size)) (by simp; omega) _) (by simp; omega) _) (by simp; omega) _

set_option maxRecDepth 100000 in
set_option maxHeartbeats 1600000 in
theorem pv_68 (b off n c : Nat) (xs : List Int) (w : World) (h : Bytes w b off n xs) (hc : n ≤ c) (hn : n ≤ 1048576) (htab : Tab w) (a4 a6 : Addr) (Z : Zs w a4 a6) : Calls Ybad.prog 16 #[.int .u8 68, .slice (some ⟨b, off, none⟩) n c] w fun e w' => PV 68 xs w e w' := by
  obtain ⟨rb, hrb⟩ : ∃ rb, rb = w.heap.size := ⟨_, rfl⟩
  obtain ⟨W0, hW0⟩ : ∃ W0, W0 = w.alloc (.cells #[.string ⟨#[]⟩, .string ⟨#[]⟩, .bool false] 27) := ⟨_, rfl⟩
  have hrk : W0.heap[rb]? = some (.cells #[.string ⟨#[]⟩, .string ⟨#[]⟩, .bool false] 27) := by rw [hW0]; exact hp_alloc_at hrb
  have hb : Below w.heap.size w W0 := by rw [hW0]; exact (Below.refl _ _).alloc (Nat.le_refl _) _
  have hB0 := h.on hb
  have HRB := hide hrb
  have HW0 := hide hW0
  have HRK := hide hrk
  have HB := hide hb
  have hsp : pvS 68 xs = some (strOf xs) := rfl
  have hcv := conv_bytes b off n c xs W0 hB0
  obtain ⟨sv, hsv⟩ : ∃ sv : ByteArray, sv = strOf xs := ⟨_, rfl⟩
  rw [← hsv] at hcv hsp
  have HSP := hide hsp
  have HQ : Hid (Below W0.heap.size W0 W0) := Below.refl _ _
  clear hrb hW0 hrk hb hB0 h htab Z hsp hsv
  go_enter Ybad.func16, Ybad.ntmps16
  go_upto_region 1 with fail
  rw [← HW0.out, ← HRB.out]
  have kk1 := (HQ.out.block rb (lt_of_block HRK.out)).trans HRK.out
  have r0 : W0.cell? ⟨rb, 0, none⟩ = some (.string ⟨#[]⟩) := cell_at kk1 rfl
  have r1 : W0.cell? ⟨rb, 1, none⟩ = some (.string ⟨#[]⟩) := cell_at kk1 rfl
  have r2 : W0.cell? ⟨rb, 2, none⟩ = some (.bool false) := cell_at kk1 rfl
  have y0 : W0.frozen? ⟨rb, 0, none⟩ = false := frozen_at kk1
  have y1 : W0.frozen? ⟨rb, 1, none⟩ = false := frozen_at kk1
  have y2 : W0.frozen? ⟨rb, 2, none⟩ = false := frozen_at kk1
  have KK := hide kk1
  clear kk1
  go_wp2_with fail
  obtain ⟨W2, hW2⟩ : ∃ W2, W2 = ((W0.setCell ⟨rb, 0, none⟩ (.string ⟨#[]⟩)).setCell ⟨rb, 1, none⟩ (.string sv)).setCell ⟨rb, 2, none⟩ (.bool false) := ⟨_, rfl⟩
  rw [← hW2]
  have hk2 : W2.heap[rb]? = some (.cells #[.string ⟨#[]⟩, .string sv, .bool false] 27) := by
    rw [hW2, hp_setCell_eq (hp_setCell_eq (hp_setCell_eq KK.out))]
    rfl
  try simp only [Exit.inBlock, Exit.then]
  refine bodyPost_ret (res_two rfl _ _ ⟨rb, 0, none⟩ _ rfl (load27 rb _ _ _ W2 (cell_at hk2 rfl) (cell_at hk2 rfl) (cell_at hk2 rfl))) rfl ?_
  refine ⟨sv, ?_, ?_, ?_⟩
  · rfl
  · intro t ht
    have : pvS 68 xs = some sv := HSP.out
    rw [this] at ht
    cases ht; rfl
  · have hr := HRB.out
    rw [hW2]
    exact Below.setCell (Below.setCell (Below.setCell (HB.out.trans (Below.mono HQ.out HB.out.size)) (by simp; omega) _) (by simp; omega) _) (by simp; omega) _

set_option maxRecDepth 100000 in
set_option maxHeartbeats 1600000 in
theorem pv_6 (b off n c : Nat) (xs : List Int) (w : World) (h : Bytes w b off n xs) (hc : n ≤ c) (hn : n ≤ 1048576) (htab : Tab w) (a4 a6 : Addr) (Z : Zs w a4 a6) : Calls Ybad.prog 16 #[.int .u8 6, .slice (some ⟨b, off, none⟩) n c] w fun e w' => PV 6 xs w e w' := by
  obtain ⟨rb, hrb⟩ : ∃ rb, rb = w.heap.size := ⟨_, rfl⟩
  obtain ⟨W0, hW0⟩ : ∃ W0, W0 = w.alloc (.cells #[.string ⟨#[]⟩, .string ⟨#[]⟩, .bool false] 27) := ⟨_, rfl⟩
  have hrk : W0.heap[rb]? = some (.cells #[.string ⟨#[]⟩, .string ⟨#[]⟩, .bool false] 27) := by rw [hW0]; exact hp_alloc_at hrb
  have hb : Below w.heap.size w W0 := by rw [hW0]; exact (Below.refl _ _).alloc (Nat.le_refl _) _
  have hB0 := h.on hb
  have HRB := hide hrb
  have HW0 := hide hW0
  have HRK := hide hrk
  have HB := hide hb
  have hsp : pvS 6 xs = some ⟨((oidOf xs).getD []).toArray⟩ := rfl
  have hok : pvK 6 xs = (oidOf xs).isSome := rfl
  have hl := h.len
  have HF : Hid (Calls Ybad.prog 23 #[.slice (some ⟨b, off, none⟩) n c] W0 fun e w' => e = .returned (.tuple #[.string ⟨((oidOf xs).getD []).toArray⟩, .bool (oidOf xs).isSome]) ∧ (Below W0.heap.size W0 w' ∧ w'.cell? ⟨rb, 0, none⟩ = some (.string ⟨#[]⟩) ∧ w'.cell? ⟨rb, 1, none⟩ = some (.string ⟨#[]⟩) ∧ w'.cell? ⟨rb, 2, none⟩ = some (.bool false) ∧ w'.frozen? ⟨rb, 0, none⟩ = false ∧ w'.frozen? ⟨rb, 1, none⟩ = false ∧ w'.frozen? ⟨rb, 2, none⟩ = false)) := by
    by_cases h0 : n = 0
    · subst h0
      have hnil : xs = [] := List.length_eq_zero_iff.1 hl.symm
      subst hnil
      refine (foid_nil _ c W0).mono fun e w' hh => ⟨hh.1, by rw [hh.2]; exact ⟨Below.refl _ _, rb_keep HRK.out (Below.refl _ _)⟩⟩
    · have hne : xs ≠ [] := fun e => h0 (by rw [hl, e]; rfl)
      have hf := foid_any b off n c xs W0 hB0 hc (by omega) hn (htab.on hb)
      rw [fmt_first xs 0 true hne] at hf
      refine hf.mono fun e w' hh => ⟨?_, hh.2, rb_keep HRK.out hh.2⟩
      rw [hh.1]
      show Ending.returned (oidV (oidOf xs)) = _
      cases oidOf xs <;> rfl
  obtain ⟨sv, hsv⟩ : ∃ sv : ByteArray, sv = ⟨((oidOf xs).getD []).toArray⟩ := ⟨_, rfl⟩
  obtain ⟨kv, hkv⟩ : ∃ kv, kv = (oidOf xs).isSome := ⟨_, rfl⟩
  rw [← hsv, ← hkv] at HF
  rw [← hsv] at hsp
  rw [← hkv] at hok
  have HSP := hide hsp
  have HOK := hide hok
  clear hrb hW0 hrk hb hB0 h htab Z hsp hsv hok hkv hl
  go_enter Ybad.func16, Ybad.ntmps16
  go_upto_region 1 with fail
  rw [← HW0.out, ← HRB.out]
  go_wp2_with (go_at_call 23; refine HF.out.mono ?_; rintro e W1 ⟨rfl, hh, r0, r1, r2, y0, y1, y2⟩; have HQ := hide hh; clear hh)
  have KK := hide ((HQ.out.block rb (lt_of_block HRK.out)).trans HRK.out)
  obtain ⟨W2, hW2⟩ : ∃ W2, W2 = ((W1.setCell ⟨rb, 0, none⟩ (.string ⟨#[]⟩)).setCell ⟨rb, 1, none⟩ (.string sv)).setCell ⟨rb, 2, none⟩ (.bool false) := ⟨_, rfl⟩
  rw [← hW2]
  have hk2 : W2.heap[rb]? = some (.cells #[.string ⟨#[]⟩, .string sv, .bool false] 27) := by
    rw [hW2, hp_setCell_eq (hp_setCell_eq (hp_setCell_eq KK.out))]
    rfl
  try simp only [Exit.inBlock, Exit.then]
  refine bodyPost_ret (res_two rfl _ _ ⟨rb, 0, none⟩ _ rfl (load27 rb _ _ _ W2 (cell_at hk2 rfl) (cell_at hk2 rfl) (cell_at hk2 rfl))) rfl ?_
  refine ⟨sv, ?_, ?_, ?_⟩
  · rw [HOK.out]; rfl
  · intro t ht
    have : pvS 6 xs = some sv := HSP.out
    rw [this] at ht
    cases ht; rfl
  · have hr := HRB.out
    rw [hW2]
    exact Below.setCell (Below.setCell (Below.setCell (HB.out.trans (Below.mono HQ.out HB.out.size)) (by simp; omega) _) (by simp; omega) _) (by simp; omega) _
end Go.Proofs.YbulkdphmDoor
