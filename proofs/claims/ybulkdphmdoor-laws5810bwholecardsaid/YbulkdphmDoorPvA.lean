/-
  snmp.parseValue: null.
-/
import Derived.Test.YbulkdphmDoorRows
import Derived.WalkKit
import Derived.ProofKit
import Derived.OpenShut
import Derived.WalkLawsBesides
import Derived.BigQuiet
import Derived.Laws.BitsAllLaws
import Derived.Laws.StructEq
import Derived.Outline
import Derived.Test.YbulkdphmDoorIp11
import Derived.Test.YbulkdphmDoorZOid
import Derived.Test.YbulkdphmDoorZInt
import Derived.Test.YbulkdphmDoorZUint
import Derived.Deep.RegionWith
import Derived.Deep.RegionHeld3
import Derived.Deep.DeepCutAuto
import Derived.Deep.DrawnRows
import Derived.Handy
import Derived.Laws.ResultCell
namespace Go.Proofs.YbulkdphmDoor
open Go.ChangeShapes Go.WideShapes Go.ChangeAt Go.RowKit
open Go.ChangeMaps (setBlock)
set_option linter.unusedVariables false
set_option linter.unusedSimpArgs false


open Go.Lib (byteCells decDigits itoa)
def strOf (xs : List Int) : ByteArray := ⟨(xs.map fun x => UInt8.ofNat x.toNat).toArray⟩
theorem conv_bytes (b off n c : Nat) (xs : List Int) (w : World) (h : Bytes w b off n xs) : (convert 22 9 (.slice (some ⟨b, off, none⟩) n c)).run Ybad.prog w = .ok (.string (strOf xs)) w := by
  have hl : n = (xs.map fun x => UInt8.ofNat x.toNat).length := by rw [List.length_map]; exact h.len
  rw [hl]
  refine run_convert_bytes_back (P := Ybad.prog) w 22 9 5 ⟨b, off, none⟩ c _ Ybad.underlying22 Ybad.underlying5 Ybad.underlying9 (fun j hj => ?_)
  have hj' : j < xs.length := by simpa using hj
  rw [Lib.add_plain, h.cell j (by rw [h.len]; exact hj')]
  have hb := h.at (i := j) (by rw [h.len]; exact hj')
  have e : xs.getD j 0 = xs[j] := by simp [List.getD, hj']
  rw [e] at hb ⊢
  congr 2
  rw [List.getElem_map]
  have : (UInt8.ofNat xs[j].toNat).toNat = xs[j].toNat := by rw [UInt8.toNat_ofNat']; omega
  rw [this]
  omega
/-- What a value's text is (none: left open), whether it is null, whether it is well formed. -/
def pvS (tg : Int) (xs : List Int) : Option ByteArray :=
  if tg = 2 then some ⟨(itoa (if 0 < xs.length ∧ xs.length ≤ 8 then sI xs else 0)).toArray⟩
  else if tg = 65 ∨ tg = 66 ∨ tg = 67 ∨ tg = 70 then some ⟨(decDigits (if 0 < xs.length ∧ (dz xs).length ≤ 8 then (uF 0 (dz xs)).toNat else 0)).toArray⟩
  else if tg = 4 ∨ tg = 68 then some (strOf xs)
  else if tg = 6 then some ⟨((oidOf xs).getD []).toArray⟩
  else if tg = 64 then (if xs.length = 4 then some ⟨(txt4 (lo4 (xs.getD 0 0).toNat (xs.getD 1 0).toNat (xs.getD 2 0).toNat (xs.getD 3 0).toNat)).toArray⟩ else if xs.length = 16 then none else some ⟨#[105, 110, 118, 97, 108, 105, 100, 32, 73, 80]⟩)
  else some ⟨#[]⟩
def pvN (tg : Int) : Bool := decide (tg = 5 ∨ tg = 128 ∨ tg = 129 ∨ tg = 130)
def pvK (tg : Int) (xs : List Int) : Bool :=
  if tg = 2 then decide (0 < xs.length ∧ xs.length ≤ 8)
  else if tg = 65 ∨ tg = 66 ∨ tg = 67 ∨ tg = 70 then decide (0 < xs.length ∧ (dz xs).length ≤ 8)
  else if tg = 4 ∨ tg = 68 then true
  else if tg = 6 then (oidOf xs).isSome
  else if tg = 64 then decide (xs.length = 4)
  else if tg = 5 ∨ tg = 128 ∨ tg = 129 ∨ tg = 130 then decide (xs.length = 0)
  else false
theorem rb_keep {W0 w' : World} {rb : Nat} (hk : W0.heap[rb]? = some (.cells #[.string ⟨#[]⟩, .string ⟨#[]⟩, .bool false] 27)) (hb : Below W0.heap.size W0 w') :
    w'.cell? ⟨rb, 0, none⟩ = some (.string ⟨#[]⟩) ∧ w'.cell? ⟨rb, 1, none⟩ = some (.string ⟨#[]⟩) ∧ w'.cell? ⟨rb, 2, none⟩ = some (.bool false) ∧ w'.frozen? ⟨rb, 0, none⟩ = false ∧ w'.frozen? ⟨rb, 1, none⟩ = false ∧ w'.frozen? ⟨rb, 2, none⟩ = false := by
  have h := (hb.block rb (lt_of_block hk)).trans hk
  exact ⟨cell_at h rfl, cell_at h rfl, cell_at h rfl, frozen_at h, frozen_at h, frozen_at h⟩
/-- What parseValue returns. -/
def PV (tg : Int) (xs : List Int) (w : World) (e : Ending) (w' : World) : Prop :=
  ∃ s : ByteArray, e = .returned (.tuple #[.agg #[.string ⟨#[]⟩, .string s, .bool (pvN tg)], .bool (pvK tg xs)]) ∧ (∀ t, pvS tg xs = some t → s = t) ∧ Below w.heap.size w w'

set_option maxRecDepth 100000 in
set_option maxHeartbeats 1600000 in
theorem pv_5_0 (b off n c : Nat) (xs : List Int) (w : World) (h : Bytes w b off n xs) (hc : n ≤ c) (hn : n ≤ 1048576) (htab : Tab w) (a4 a6 : Addr) (Z : Zs w a4 a6) (hz : n = 0) : Calls Ybad.prog 16 #[.int .u8 5, .slice (some ⟨b, off, none⟩) n c] w fun e w' => PV 5 xs w e w' := by
  obtain ⟨rb, hrb⟩ : ∃ rb, rb = w.heap.size := ⟨_, rfl⟩
  obtain ⟨W0, hW0⟩ : ∃ W0, W0 = w.alloc (.cells #[.string ⟨#[]⟩, .string ⟨#[]⟩, .bool false] 27) := ⟨_, rfl⟩
  have hrk : W0.heap[rb]? = some (.cells #[.string ⟨#[]⟩, .string ⟨#[]⟩, .bool false] 27) := by rw [hW0]; exact hp_alloc_at hrb
  have hb : Below w.heap.size w W0 := by rw [hW0]; exact (Below.refl _ _).alloc (Nat.le_refl _) _
  have hB0 := h.on hb
  have HRB := hide hrb
  have HW0 := hide hW0
  have HRK := hide hrk
  have HB := hide hb
  have hl := h.len
  have hne : ((n : Int) == 0) = true := by simp; omega
  have hok0 : pvK 5 xs = decide (xs.length = 0) := rfl
  have hok : pvK 5 xs = true := by rw [hok0]; exact decide_eq_true (by omega)
  have HOK := hide hok
  clear hrb hW0 hrk hb hB0 h htab Z hok hok0 hl hz
  have HQ : Hid (Below W0.heap.size W0 W0) := Below.refl _ _
  go_enter Ybad.func16, Ybad.ntmps16
  go_upto_region 1 with fail
  rw [← HW0.out, ← HRB.out]
  have kk1 := (HQ.out.block rb (lt_of_block HRK.out)).trans HRK.out
  have r0 : W0.cell? ⟨rb, 0, none⟩ = some (.string ⟨#[]⟩) := cell_at kk1 rfl
  have r1 : W0.cell? ⟨rb, 1, none⟩ = some (.string ⟨#[]⟩) := cell_at kk1 rfl
  have r2 : W0.cell? ⟨rb, 2, none⟩ = some (.bool false) := cell_at kk1 rfl
  have y0 : W0.frozen? ⟨rb, 0, none⟩ = false := frozen_at kk1
  have y1 : W0.frozen? ⟨rb, 1, none⟩ = false := frozen_at kk1
  have y2 : W0.frozen? ⟨rb, 2, none⟩ = false := frozen_at kk1
  have KK := hide kk1
  clear kk1
  go_wp2_with fail
  obtain ⟨W2, hW2⟩ : ∃ W2, W2 = ((W0.setCell ⟨rb, 0, none⟩ (.string ⟨#[]⟩)).setCell ⟨rb, 1, none⟩ (.string ⟨#[]⟩)).setCell ⟨rb, 2, none⟩ (.bool true) := ⟨_, rfl⟩
  rw [← hW2]
  have hk2 : W2.heap[rb]? = some (.cells #[.string ⟨#[]⟩, .string ⟨#[]⟩, .bool true] 27) := by
    rw [hW2, hp_setCell_eq (hp_setCell_eq (hp_setCell_eq KK.out))]
    rfl
  try simp only [Exit.inBlock, Exit.then]
  refine bodyPost_ret (res_two rfl _ _ ⟨rb, 0, none⟩ _ rfl (load27 rb _ _ _ W2 (cell_at hk2 rfl) (cell_at hk2 rfl) (cell_at hk2 rfl))) rfl ?_
  refine ⟨⟨#[]⟩, ?_, ?_, ?_⟩
  · rw [HOK.out]; rfl
  · intro t ht
    have : pvS 5 xs = some ⟨#[]⟩ := by unfold pvS; simp
    rw [this] at ht
    cases ht; rfl
  · have hr := HRB.out
    rw [hW2]
    exact Below.setCell (Below.setCell (Below.setCell (HB.out.trans (Below.mono HQ.out HB.out.size)) (by simp; omega) _) (by simp; omega) _) (by simp; omega) _

set_option maxRecDepth 100000 in
set_option maxHeartbeats 1600000 in
theorem pv_5_1 (b off n c : Nat) (xs : List Int) (w : World) (h : Bytes w b off n xs) (hc : n ≤ c) (hn : n ≤ 1048576) (htab : Tab w) (a4 a6 : Addr) (Z : Zs w a4 a6) (hz : n ≠ 0) : Calls Ybad.prog 16 #[.int .u8 5, .slice (some ⟨b, off, none⟩) n c] w fun e w' => PV 5 xs w e w' := by
  obtain ⟨rb, hrb⟩ : ∃ rb, rb = w.heap.size := ⟨_, rfl⟩
  obtain ⟨W0, hW0⟩ : ∃ W0, W0 = w.alloc (.cells #[.string ⟨#[]⟩, .string ⟨#[]⟩, .bool false] 27) := ⟨_, rfl⟩
  have hrk : W0.heap[rb]? = some (.cells #[.string ⟨#[]⟩, .string ⟨#[]⟩, .bool false] 27) := by rw [hW0]; exact hp_alloc_at hrb
  have hb : Below w.heap.size w W0 := by rw [hW0]; exact (Below.refl _ _).alloc (Nat.le_refl _) _
  have hB0 := h.on hb
  have HRB := hide hrb
  have HW0 := hide hW0
  have HRK := hide hrk
  have HB := hide hb
  have hl := h.len
  have hne : ((n : Int) == 0) = false := by simp; omega
  have hok0 : pvK 5 xs = decide (xs.length = 0) := rfl
  have hok : pvK 5 xs = false := by rw [hok0]; exact decide_eq_false (by omega)
  have HOK := hide hok
  clear hrb hW0 hrk hb hB0 h htab Z hok hok0 hl hz
  have HQ : Hid (Below W0.heap.size W0 W0) := Below.refl _ _
  go_enter Ybad.func16, Ybad.ntmps16
  go_upto_region 1 with fail
  rw [← HW0.out, ← HRB.out]
  have kk1 := (HQ.out.block rb (lt_of_block HRK.out)).trans HRK.out
  have r0 : W0.cell? ⟨rb, 0, none⟩ = some (.string ⟨#[]⟩) := cell_at kk1 rfl
  have r1 : W0.cell? ⟨rb, 1, none⟩ = some (.string ⟨#[]⟩) := cell_at kk1 rfl
  have r2 : W0.cell? ⟨rb, 2, none⟩ = some (.bool false) := cell_at kk1 rfl
  have y0 : W0.frozen? ⟨rb, 0, none⟩ = false := frozen_at kk1
  have y1 : W0.frozen? ⟨rb, 1, none⟩ = false := frozen_at kk1
  have y2 : W0.frozen? ⟨rb, 2, none⟩ = false := frozen_at kk1
  have KK := hide kk1
  clear kk1
  go_wp2_with fail
  obtain ⟨W2, hW2⟩ : ∃ W2, W2 = ((W0.setCell ⟨rb, 0, none⟩ (.string ⟨#[]⟩)).setCell ⟨rb, 1, none⟩ (.string ⟨#[]⟩)).setCell ⟨rb, 2, none⟩ (.bool true) := ⟨_, rfl⟩
  rw [← hW2]
  have hk2 : W2.heap[rb]? = some (.cells #[.string ⟨#[]⟩, .string ⟨#[]⟩, .bool true] 27) := by
    rw [hW2, hp_setCell_eq (hp_setCell_eq (hp_setCell_eq KK.out))]
    rfl
  try simp only [Exit.inBlock, Exit.then]
  refine bodyPost_ret (res_two rfl _ _ ⟨rb, 0, none⟩ _ rfl (load27 rb _ _ _ W2 (cell_at hk2 rfl) (cell_at hk2 rfl) (cell_at hk2 rfl))) rfl ?_
  refine ⟨⟨#[]⟩, ?_, ?_, ?_⟩
  · rw [HOK.out]; rfl
  · intro t ht
    have : pvS 5 xs = some ⟨#[]⟩ := by unfold pvS; simp
    rw [this] at ht
    cases ht; rfl
  · have hr := HRB.out
    rw [hW2]
    exact Below.setCell (Below.setCell (Below.setCell (HB.out.trans (Below.mono HQ.out HB.out.size)) (by simp; omega) _) (by simp; omega) _) (by simp; omega) _

set_option maxRecDepth 100000 in
set_option maxHeartbeats 1600000 in
theorem pv_128_0 (b off n c : Nat) (xs : List Int) (w : World) (h : Bytes w b off n xs) (hc : n ≤ c) (hn : n ≤ 1048576) (htab : Tab w) (a4 a6 : Addr) (Z : Zs w a4 a6) (hz : n = 0) : Calls Ybad.prog 16 #[.int .u8 128, .slice (some ⟨b, off, none⟩) n c] w fun e w' => PV 128 xs w e w' := by
  obtain ⟨rb, hrb⟩ : ∃ rb, rb = w.heap.size := ⟨_, rfl⟩
  obtain ⟨W0, hW0⟩ : ∃ W0, W0 = w.alloc (.cells #[.string ⟨#[]⟩, .string ⟨#[]⟩, .bool false] 27) := ⟨_, rfl⟩
  have hrk : W0.heap[rb]? = some (.cells #[.string ⟨#[]⟩, .string ⟨#[]⟩, .bool false] 27) := by rw [hW0]; exact hp_alloc_at hrb
  have hb : Below w.heap.size w W0 := by rw [hW0]; exact (Below.refl _ _).alloc (Nat.le_refl _) _
  have hB0 := h.on hb
  have HRB := hide hrb
  have HW0 := hide hW0
  have HRK := hide hrk
  have HB := hide hb
  have hl := h.len
  have hne : ((n : Int) == 0) = true := by simp; omega
  have hok0 : pvK 128 xs = decide (xs.length = 0) := rfl
  have hok : pvK 128 xs = true := by rw [hok0]; exact decide_eq_true (by omega)
  have HOK := hide hok
  clear hrb hW0 hrk hb hB0 h htab Z hok hok0 hl hz
  have HQ : Hid (Below W0.heap.size W0 W0) := Below.refl _ _
  go_enter Ybad.func16, Ybad.ntmps16
  go_upto_region 1 with fail
  rw [← HW0.out, ← HRB.out]
  have kk1 := (HQ.out.block rb (lt_of_block HRK.out)).trans HRK.out
  have r0 : W0.cell? ⟨rb, 0, none⟩ = some (.string ⟨#[]⟩) := cell_at kk1 rfl
  have r1 : W0.cell? ⟨rb, 1, none⟩ = some (.string ⟨#[]⟩) := cell_at kk1 rfl
  have r2 : W0.cell? ⟨rb, 2, none⟩ = some (.bool false) := cell_at kk1 rfl
  have y0 : W0.frozen? ⟨rb, 0, none⟩ = false := frozen_at kk1
  have y1 : W0.frozen? ⟨rb, 1, none⟩ = false := frozen_at kk1
  have y2 : W0.frozen? ⟨rb, 2, none⟩ = false := frozen_at kk1
  have KK := hide kk1
  clear kk1
  go_wp2_with fail
  obtain ⟨W2, hW2⟩ : ∃ W2, W2 = ((W0.setCell ⟨rb, 0, none⟩ (.string ⟨#[]⟩)).setCell ⟨rb, 1, none⟩ (.string ⟨#[]⟩)).setCell ⟨rb, 2, none⟩ (.bool true) := ⟨_, rfl⟩
  rw [← hW2]
  have hk2 : W2.heap[rb]? = some (.cells #[.string ⟨#[]⟩, .string ⟨#[]⟩, .bool true] 27) := by
    rw [hW2, hp_setCell_eq (hp_setCell_eq (hp_setCell_eq KK.out))]
    rfl
  try simp only [Exit.inBlock, Exit.then]
  refine bodyPost_ret (res_two rfl _ _ ⟨rb, 0, none⟩ _ rfl (load27 rb _ _ _ W2 (cell_at hk2 rfl) (cell_at hk2 rfl) (cell_at hk2 rfl))) rfl ?_
  refine ⟨⟨#[]⟩, ?_, ?_, ?_⟩
  · rw [HOK.out]; rfl
  · intro t ht
    have : pvS 128 xs = some ⟨#[]⟩ := by unfold pvS; simp
    rw [this] at ht
    cases ht; rfl
  · have hr := HRB.out
    rw [hW2]
    exact Below.setCell (Below.setCell (Below.setCell (HB.out.trans (Below.mono HQ.out HB.out.size)) (by simp; omega) _) (by simp; omega) _) (by simp; omega) _

set_option maxRecDepth 100000 in
set_option maxHeartbeats 1600000 in
theorem pv_128_1 (b off n c : Nat) (xs : List Int) (w : World) (h : Bytes w b off n xs) (hc : n ≤ c) (hn : n ≤ 1048576) (htab : Tab w) (a4 a6 : Addr) (Z : Zs w a4 a6) (hz : n ≠ 0) : Calls Ybad.prog 16 #[.int .u8 128, .slice (some ⟨b, off, none⟩) n c] w fun e w' => PV 128 xs w e w' := by
  obtain ⟨rb, hrb⟩ : ∃ rb, rb = w.heap.size := ⟨_, rfl⟩
  obtain ⟨W0, hW0⟩ : ∃ W0, W0 = w.alloc (.cells #[.string ⟨#[]⟩, .string ⟨#[]⟩, .bool false] 27) := ⟨_, rfl⟩
  have hrk : W0.heap[rb]? = some (.cells #[.string ⟨#[]⟩, .string ⟨#[]⟩, .bool false] 27) := by rw [hW0]; exact hp_alloc_at hrb
  have hb : Below w.heap.size w W0 := by rw [hW0]; exact (Below.refl _ _).alloc (Nat.le_refl _) _
  have hB0 := h.on hb
  have HRB := hide hrb
  have HW0 := hide hW0
  have HRK := hide hrk
  have HB := hide hb
  have hl := h.len
  have hne : ((n : Int) == 0) = false := by simp; omega
  have hok0 : pvK 128 xs = decide (xs.length = 0) := rfl
  have hok : pvK 128 xs = false := by rw [hok0]; exact decide_eq_false (by omega)
  have HOK := hide hok
  clear hrb hW0 hrk hb hB0 h htab Z hok hok0 hl hz
  have HQ : Hid (Below W0.heap.size W0 W0) := Below.refl _ _
  go_enter Ybad.func16, Ybad.ntmps16
  go_upto_region 1 with fail
  rw [← HW0.out, ← HRB.out]
  have kk1 := (HQ.out.block rb (lt_of_block HRK.out)).trans HRK.out
  have r0 : W0.cell? ⟨rb, 0, none⟩ = some (.string ⟨#[]⟩) := cell_at kk1 rfl
  have r1 : W0.cell? ⟨rb, 1, none⟩ = some (.string ⟨#[]⟩) := cell_at kk1 rfl
  have r2 : W0.cell? ⟨rb, 2, none⟩ = some (.bool false) := cell_at kk1 rfl
  have y0 : W0.frozen? ⟨rb, 0, none⟩ = false := frozen_at kk1
  have y1 : W0.frozen? ⟨rb, 1, none⟩ = false := frozen_at kk1
  have y2 : W0.frozen? ⟨rb, 2, none⟩ = false := frozen_at kk1
  have KK := hide kk1
  clear kk1
  go_wp2_with fail
  obtain ⟨W2, hW2⟩ : ∃ W2, W2 = ((W0.setCell ⟨rb, 0, none⟩ (.string ⟨#[]⟩)).setCell ⟨rb, 1, none⟩ (.string ⟨#[]⟩)).setCell ⟨rb, 2, none⟩ (.bool true) := ⟨_, rfl⟩
  rw [← hW2]
  have hk2 : W2.heap[rb]? = some (.cells #[.string ⟨#[]⟩, .string ⟨#[]⟩, .bool true] 27) := by
    rw [hW2, hp_setCell_eq (hp_setCell_eq (hp_setCell_eq KK.out))]
    rfl
  try simp only [Exit.inBlock, Exit.then]
  refine bodyPost_ret (res_two rfl _ _ ⟨rb, 0, none⟩ _ rfl (load27 rb _ _ _ W2 (cell_at hk2 rfl) (cell_at hk2 rfl) (cell_at hk2 rfl))) rfl ?_
  refine ⟨⟨#[]⟩, ?_, ?_, ?_⟩
  · rw [HOK.out]; rfl
  · intro t ht
    have : pvS 128 xs = some ⟨#[]⟩ := by unfold pvS; simp
    rw [this] at ht
    cases ht; rfl
  · have hr := HRB.out
    rw [hW2]
    exact Below.setCell (Below.setCell (Below.setCell (HB.out.trans (Below.mono HQ.out HB.out.size)) (by simp; omega) _) (by simp; omega) _) (by simp; omega) _

set_option maxRecDepth 100000 in
set_option maxHeartbeats 1600000 in
theorem pv_129_0 (b off n c : Nat) (xs : List Int) (w : World) (h : Bytes w b off n xs) (hc : n ≤ c) (hn : n ≤ 1048576) (htab : Tab w) (a4 a6 : Addr) (Z : Zs w a4 a6) (hz : n = 0) : Calls Ybad.prog 16 #[.int .u8 129, .slice (some ⟨b, off, none⟩) n c] w fun e w' => PV 129 xs w e w' := by
  obtain ⟨rb, hrb⟩ : ∃ rb, rb = w.heap.size := ⟨_, rfl⟩
  obtain ⟨W0, hW0⟩ : ∃ W0, W0 = w.alloc (.cells #[.string ⟨#[]⟩, .string ⟨#[]⟩, .bool false] 27) := ⟨_, rfl⟩
  have hrk : W0.heap[rb]? = some (.cells #[.string ⟨#[]⟩, .string ⟨#[]⟩, .bool false] 27) := by rw [hW0]; exact hp_alloc_at hrb
  have hb : Below w.heap.size w W0 := by rw [hW0]; exact (Below.refl _ _).alloc (Nat.le_refl _) _
  have hB0 := h.on hb
  have HRB := hide hrb
  have HW0 := hide hW0
  have HRK := hide hrk
  have HB := hide hb
  have hl := h.len
  have hne : ((n : Int) == 0) = true := by simp; omega
  have hok0 : pvK 129 xs = decide (xs.length = 0) := rfl
  have hok : pvK 129 xs = true := by rw [hok0]; exact decide_eq_true (by omega)
  have HOK := hide hok
  clear hrb hW0 hrk hb hB0 h htab Z hok hok0 hl hz
  have HQ : Hid (Below W0.heap.size W0 W0) := Below.refl _ _
  go_enter Ybad.func16, Ybad.ntmps16
  go_upto_region 1 with fail
  rw [← HW0.out, ← HRB.out]
  have kk1 := (HQ.out.block rb (lt_of_block HRK.out)).trans HRK.out
  have r0 : W0.cell? ⟨rb, 0, none⟩ = some (.string ⟨#[]⟩) := cell_at kk1 rfl
  have r1 : W0.cell? ⟨rb, 1, none⟩ = some (.string ⟨#[]⟩) := cell_at kk1 rfl
  have r2 : W0.cell? ⟨rb, 2, none⟩ = some (.bool false) := cell_at kk1 rfl
  have y0 : W0.frozen? ⟨rb, 0, none⟩ = false := frozen_at kk1
  have y1 : W0.frozen? ⟨rb, 1, none⟩ = false := frozen_at kk1
  have y2 : W0.frozen? ⟨rb, 2, none⟩ = false := frozen_at kk1
  have KK := hide kk1
  clear kk1
  go_wp2_with fail
  obtain ⟨W2, hW2⟩ : ∃ W2, W2 = ((W0.setCell ⟨rb, 0, none⟩ (.string ⟨#[]⟩)).setCell ⟨rb, 1, none⟩ (.string ⟨#[]⟩)).setCell ⟨rb, 2, none⟩ (.bool true) := ⟨_, rfl⟩
  rw [← hW2]
  have hk2 : W2.heap[rb]? = some (.cells #[.string ⟨#[]⟩, .string ⟨#[]⟩, .bool true] 27) := by
    rw [hW2, hp_setCell_eq (hp_setCell_eq (hp_setCell_eq KK.out))]
    rfl
  try simp only [Exit.inBlock, Exit.then]
  refine bodyPost_ret (res_two rfl _ _ ⟨rb, 0, none⟩ _ rfl (load27 rb _ _ _ W2 (cell_at hk2 rfl) (cell_at hk2 rfl) (cell_at hk2 rfl))) rfl ?_
  refine ⟨⟨#[]⟩, ?_, ?_, ?_⟩
  · rw [HOK.out]; rfl
  · intro t ht
    have : pvS 129 xs = some ⟨#[]⟩ := by unfold pvS; simp
    rw [this] at ht
    cases ht; rfl
  · have hr := HRB.out
    rw [hW2]
    exact Below.setCell (Below.setCell (Below.setCell (HB.out.trans (Below.mono HQ.out HB.out.size)) (by simp; omega) _) (by simp; omega) _) (by simp; omega) _

set_option maxRecDepth 100000 in
set_option maxHeartbeats 1600000 in
theorem pv_129_1 (b off n c : Nat) (xs : List Int) (w : World) (h : Bytes w b off n xs) (hc : n ≤ c) (hn : n ≤ 1048576) (htab : Tab w) (a4 a6 : Addr) (Z : Zs w a4 a6) (hz : n ≠ 0) : Calls Ybad.prog 16 #[.int .u8 129, .slice (some ⟨b, off, none⟩) n c] w fun e w' => PV 129 xs w e w' := by
  obtain ⟨rb, hrb⟩ : ∃ rb, rb = w.heap.size := ⟨_, rfl⟩
  obtain ⟨W0, hW0⟩ : ∃ W0, W0 = w.alloc (.cells #[.string ⟨#[]⟩, .string ⟨#[]⟩, .bool false] 27) := ⟨_, rfl⟩
  have hrk : W0.heap[rb]? = some (.cells #[.string ⟨#[]⟩, .string ⟨#[]⟩, .bool false] 27) := by rw [hW0]; exact hp_alloc_at hrb
  have hb : Below w.heap.size w W0 := by rw [hW0]; exact (Below.refl _ _).alloc (Nat.le_refl _) _
  have hB0 := h.on hb
  have HRB := hide hrb
  have HW0 := hide hW0
  have HRK := hide hrk
  have HB := hide hb
  have hl := h.len
  have hne : ((n : Int) == 0) = false := by simp; omega
  have hok0 : pvK 129 xs = decide (xs.length = 0) := rfl
  have hok : pvK 129 xs = false := by rw [hok0]; exact decide_eq_false (by omega)
  have HOK := hide hok
  clear hrb hW0 hrk hb hB0 h htab Z hok hok0 hl hz
  have HQ : Hid (Below W0.heap.size W0 W0) := Below.refl _ _
  go_enter Ybad.func16, Ybad.ntmps16
  go_upto_region 1 with fail
  rw [← HW0.out, ← HRB.out]
  have kk1 := (HQ.out.block rb (lt_of_block HRK.out)).trans HRK.out
  have r0 : W0.cell? ⟨rb, 0, none⟩ = some (.string ⟨#[]⟩) := cell_at kk1 rfl
  have r1 : W0.cell? ⟨rb, 1, none⟩ = some (.string ⟨#[]⟩) := cell_at kk1 rfl
  have r2 : W0.cell? ⟨rb, 2, none⟩ = some (.bool false) := cell_at kk1 rfl
  have y0 : W0.frozen? ⟨rb, 0, none⟩ = false := frozen_at kk1
  have y1 : W0.frozen? ⟨rb, 1, none⟩ = false := frozen_at kk1
  have y2 : W0.frozen? ⟨rb, 2, none⟩ = false := frozen_at kk1
  have KK := hide kk1
  clear kk1
  go_wp2_with fail
  obtain ⟨W2, hW2⟩ : ∃ W2, W2 = ((W0.setCell ⟨rb, 0, none⟩ (.string ⟨#[]⟩)).setCell ⟨rb, 1, none⟩ (.string ⟨#[]⟩)).setCell ⟨rb, 2, none⟩ (.bool true) := ⟨_, rfl⟩
  rw [← hW2]
  have hk2 : W2.heap[rb]? = some (.cells #[.string ⟨#[]⟩, .string ⟨#[]⟩, .bool true] 27) := by
    rw [hW2, hp_setCell_eq (hp_setCell_eq (hp_setCell_eq KK.out))]
    rfl
  try simp only [Exit.inBlock, Exit.then]
  refine bodyPost_ret (res_two rfl _ _ ⟨rb, 0, none⟩ _ rfl (load27 rb _ _ _ W2 (cell_at hk2 rfl) (cell_at hk2 rfl) (cell_at hk2 rfl))) rfl ?_
  refine ⟨⟨#[]⟩, ?_, ?_, ?_⟩
  · rw [HOK.out]; rfl
  · intro t ht
    have : pvS 129 xs = some ⟨#[]⟩ := by unfold pvS; simp
    rw [this] at ht
    cases ht; rfl
  · have hr := HRB.out
    rw [hW2]
    exact Below.setCell (Below.setCell (Below.setCell (HB.out.trans (Below.mono HQ.out HB.out.size)) (by simp; omega) _) (by simp; omega) _) (by simp; omega) _

set_option maxRecDepth 100000 in
set_option maxHeartbeats 1600000 in
theorem pv_130_0 (b off n c : Nat) (xs : List Int) (w : World) (h : Bytes w b off n xs) (hc : n ≤ c) (hn : n ≤ 1048576) (htab : Tab w) (a4 a6 : Addr) (Z : Zs w a4 a6) (hz : n = 0) : Calls Ybad.prog 16 #[.int .u8 130, .slice (some ⟨b, off, none⟩) n c] w fun e w' => PV 130 xs w e w' := by
  obtain ⟨rb, hrb⟩ : ∃ rb, rb = w.heap.size := ⟨_, rfl⟩
  obtain ⟨W0, hW0⟩ : ∃ W0, W0 = w.alloc (.cells #[.string ⟨#[]⟩, .string ⟨#[]⟩, .bool false] 27) := ⟨_, rfl⟩
  have hrk : W0.heap[rb]? = some (.cells #[.string ⟨#[]⟩, .string ⟨#[]⟩, .bool false] 27) := by rw [hW0]; exact hp_alloc_at hrb
  have hb : Below w.heap.size w W0 := by rw [hW0]; exact (Below.refl _ _).alloc (Nat.le_refl _) _
  have hB0 := h.on hb
  have HRB := hide hrb
  have HW0 := hide hW0
  have HRK := hide hrk
  have HB := hide hb
  have hl := h.len
  have hne : ((n : Int) == 0) = true := by simp; omega
  have hok0 : pvK 130 xs = decide (xs.length = 0) := rfl
  have hok : pvK 130 xs = true := by rw [hok0]; exact decide_eq_true (by omega)
  have HOK := hide hok
  clear hrb hW0 hrk hb hB0 h htab Z hok hok0 hl hz
  have HQ : Hid (Below W0.heap.size W0 W0) := Below.refl _ _
  go_enter Ybad.func16, Ybad.ntmps16
  go_upto_region 1 with fail
  rw [← HW0.out, ← HRB.out]
  have kk1 := (HQ.out.block rb (lt_of_block HRK.out)).trans HRK.out
  have r0 : W0.cell? ⟨rb, 0, none⟩ = some (.string ⟨#[]⟩) := cell_at kk1 rfl
  have r1 : W0.cell? ⟨rb, 1, none⟩ = some (.string ⟨#[]⟩) := cell_at kk1 rfl
  have r2 : W0.cell? ⟨rb, 2, none⟩ = some (.bool false) := cell_at kk1 rfl
  have y0 : W0.frozen? ⟨rb, 0, none⟩ = false := frozen_at kk1
  have y1 : W0.frozen? ⟨rb, 1, none⟩ = false := frozen_at kk1
  have y2 : W0.frozen? ⟨rb, 2, none⟩ = false := frozen_at kk1
  have KK := hide kk1
  clear kk1
  go_wp2_with fail
  obtain ⟨W2, hW2⟩ : ∃ W2, W2 = ((W0.setCell ⟨rb, 0, none⟩ (.string ⟨#[]⟩)).setCell ⟨rb, 1, none⟩ (.string ⟨#[]⟩)).setCell ⟨rb, 2, none⟩ (.bool true) := ⟨_, rfl⟩
  rw [← hW2]
  have hk2 : W2.heap[rb]? = some (.cells #[.string ⟨#[]⟩, .string ⟨#[]⟩, .bool true] 27) := by
    rw [hW2, hp_setCell_eq (hp_setCell_eq (hp_setCell_eq KK.out))]
    rfl
  try simp only [Exit.inBlock, Exit.then]
  refine bodyPost_ret (res_two rfl _ _ ⟨rb, 0, none⟩ _ rfl (load27 rb _ _ _ W2 (cell_at hk2 rfl) (cell_at hk2 rfl) (cell_at hk2 rfl))) rfl ?_
  refine ⟨⟨#[]⟩, ?_, ?_, ?_⟩
  · rw [HOK.out]; rfl
  · intro t ht
    have : pvS 130 xs = some ⟨#[]⟩ := by unfold pvS; simp
    rw [this] at ht
    cases ht; rfl
  · have hr := HRB.out
    rw [hW2]
    exact Below.setCell (Below.setCell (Below.setCell (HB.out.trans (Below.mono HQ.out HB.out.size)) (by simp; omega) _) (by simp; omega) _) (by simp; omega) _

set_option maxRecDepth 100000 in
set_option maxHeartbeats 1600000 in
theorem pv_130_1 (b off n c : Nat) (xs : List Int) (w : World) (h : Bytes w b off n xs) (hc : n ≤ c) (hn : n ≤ 1048576) (htab : Tab w) (a4 a6 : Addr) (Z : Zs w a4 a6) (hz : n ≠ 0) : Calls Ybad.prog 16 #[.int .u8 130, .slice (some ⟨b, off, none⟩) n c] w fun e w' => PV 130 xs w e w' := by
  obtain ⟨rb, hrb⟩ : ∃ rb, rb = w.heap.size := ⟨_, rfl⟩
  obtain ⟨W0, hW0⟩ : ∃ W0, W0 = w.alloc (.cells #[.string ⟨#[]⟩, .string ⟨#[]⟩, .bool false] 27) := ⟨_, rfl⟩
  have hrk : W0.heap[rb]? = some (.cells #[.string ⟨#[]⟩, .string ⟨#[]⟩, .bool false] 27) := by rw [hW0]; exact hp_alloc_at hrb
  have hb : Below w.heap.size w W0 := by rw [hW0]; exact (Below.refl _ _).alloc (Nat.le_refl _) _
  have hB0 := h.on hb
  have HRB := hide hrb
  have HW0 := hide hW0
  have HRK := hide hrk
  have HB := hide hb
  have hl := h.len
  have hne : ((n : Int) == 0) = false := by simp; omega
  have hok0 : pvK 130 xs = decide (xs.length = 0) := rfl
  have hok : pvK 130 xs = false := by rw [hok0]; exact decide_eq_false (by omega)
  have HOK := hide hok
  clear hrb hW0 hrk hb hB0 h htab Z hok hok0 hl hz
  have HQ : Hid (Below W0.heap.size W0 W0) := Below.refl _ _
  go_enter Ybad.func16, Ybad.ntmps16
  go_upto_region 1 with fail
  rw [← HW0.out, ← HRB.out]
  have kk1 := (HQ.out.block rb (lt_of_block HRK.out)).trans HRK.out
  have r0 : W0.cell? ⟨rb, 0, none⟩ = some (.string ⟨#[]⟩) := cell_at kk1 rfl
  have r1 : W0.cell? ⟨rb, 1, none⟩ = some (.string ⟨#[]⟩) := cell_at kk1 rfl
  have r2 : W0.cell? ⟨rb, 2, none⟩ = some (.bool false) := cell_at kk1 rfl
  have y0 : W0.frozen? ⟨rb, 0, none⟩ = false := frozen_at kk1
  have y1 : W0.frozen? ⟨rb, 1, none⟩ = false := frozen_at kk1
  have y2 : W0.frozen? ⟨rb, 2, none⟩ = false := frozen_at kk1
  have KK := hide kk1
  clear kk1
  go_wp2_with fail
  obtain ⟨W2, hW2⟩ : ∃ W2, W2 = ((W0.setCell ⟨rb, 0, none⟩ (.string ⟨#[]⟩)).setCell ⟨rb, 1, none⟩ (.string ⟨#[]⟩)).setCell ⟨rb, 2, none⟩ (.bool true) := ⟨_, rfl⟩
  rw [← hW2]
  have hk2 : W2.heap[rb]? = some (.cells #[.string ⟨#[]⟩, .string ⟨#[]⟩, .bool true] 27) := by
    rw [hW2, hp_setCell_eq (hp_setCell_eq (hp_setCell_eq KK.out))]
    rfl
  try simp only [Exit.inBlock, Exit.then]
  refine bodyPost_ret (res_two rfl _ _ ⟨rb, 0, none⟩ _ rfl (load27 rb _ _ _ W2 (cell_at hk2 rfl) (cell_at hk2 rfl) (cell_at hk2 rfl))) rfl ?_
  refine ⟨⟨#[]⟩, ?_, ?_, ?_⟩
  · rw [HOK.out]; rfl
  · intro t ht
    have : pvS 130 xs = some ⟨#[]⟩ := by unfold pvS; simp
    rw [this] at ht
    cases ht; rfl
  · have hr := HRB.out
    rw [hW2]
    exact Below.setCell (Below.setCell (Below.setCell (HB.out.trans (Below.mono HQ.out HB.out.size)) (by simp; omega) _) (by simp; omega) _) (by simp; omega) _
end Go.Proofs.YbulkdphmDoor
