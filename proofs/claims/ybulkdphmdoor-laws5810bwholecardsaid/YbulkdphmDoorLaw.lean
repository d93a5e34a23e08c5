/-
  The law's walk.
-/
import Derived.Test.YbulkdphmDoorRows
import Derived.WalkKit
import Derived.ProofKit
import Derived.OpenShut
import Derived.WalkLawsBesides
import Derived.BigQuiet
import Derived.Laws.BitsAllLaws
import Derived.Laws.StructEq
import Derived.Outline
import Derived.Deep.RegionWith
import Derived.Deep.RegionHeld3
import Derived.Deep.DeepCutAuto
import Derived.Deep.DrawnRows
import Derived.Handy
import Derived.Laws.ResultCell
import Derived.Test.YbulkdphmDoorLawL0
import Derived.Test.YbulkdphmDoorLawL1
import Derived.Test.YbulkdphmDoorLawL2
import Derived.Test.YbulkdphmDoorLawL3
import Derived.Test.YbulkdphmDoorLawL4
namespace Go.Proofs.YbulkdphmDoor
open Go.ChangeShapes Go.WideShapes Go.ChangeAt Go.RowKit
open Go.ChangeMaps (setBlock)
set_option linter.unusedVariables false
set_option linter.unusedSimpArgs false

def tagsL : List Int := [2, 4, 5, 6, 64, 65, 66, 67, 68, 70, 128, 129, 130, 48]
def tagsC : Array Value := #[.int .u8 2, .int .u8 4, .int .u8 5, .int .u8 6, .int .u8 64, .int .u8 65, .int .u8 66, .int .u8 67, .int .u8 68, .int .u8 70, .int .u8 128, .int .u8 129, .int .u8 130, .int .u8 48]
theorem tag_at : ∀ j : _root_.Fin 14, tagsC[j.val]? = some (.int .u8 (tagsL.getD j.val 0)) ∧ 0 ≤ tagsL.getD j.val 0 ∧ tagsL.getD j.val 0 < 256 := fun
  | 0 => ⟨rfl, by decide, by decide⟩
  | 1 => ⟨rfl, by decide, by decide⟩
  | 2 => ⟨rfl, by decide, by decide⟩
  | 3 => ⟨rfl, by decide, by decide⟩
  | 4 => ⟨rfl, by decide, by decide⟩
  | 5 => ⟨rfl, by decide, by decide⟩
  | 6 => ⟨rfl, by decide, by decide⟩
  | 7 => ⟨rfl, by decide, by decide⟩
  | 8 => ⟨rfl, by decide, by decide⟩
  | 9 => ⟨rfl, by decide, by decide⟩
  | 10 => ⟨rfl, by decide, by decide⟩
  | 11 => ⟨rfl, by decide, by decide⟩
  | 12 => ⟨rfl, by decide, by decide⟩
  | 13 => ⟨rfl, by decide, by decide⟩

set_option maxRecDepth 100000 in
/-- More than 2^20 bytes: the law returns at once. -/
theorem law_big (p : Option Addr) (n c : Nat) (sel md : Int) (w0 : World) (hn : 1048576 < n) :
    Calls Ybad.prog 3 #[.slice p n c, .int .u8 sel, .int .u8 md] w0 fun e w' => e = .returned (.bool true) ∧ Below w0.heap.size w0 w' := by
  have j : (1048576 : Int) < (n : Int) := by omega
  clear hn
  go_enter Ybad.func3, Ybad.ntmps3
  go_wp2_with fail
  go_ret
  exact ⟨rfl, Below.refl _ _⟩

set_option maxRecDepth 100000 in
set_option maxHeartbeats 3200000 in
theorem law_nil_hi (w0 : World) (sel md : Nat) (hs : sel < 256) (hm : md < 256) (hsel : 224 ≤ sel) :
    Calls Ybad.prog 3 #[.slice none 0 0, .int .u8 (sel : Nat), .int .u8 (md : Nat)] w0 fun e w' => e = .returned (.bool true) ∧ Below w0.heap.size w0 w' := by
  obtain ⟨tb, htb⟩ : ∃ tb, tb = w0.heap.size := ⟨_, rfl⟩
  obtain ⟨W1, hW1⟩ : ∃ W1, W1 = w0.alloc (.cells tagsC 23) := ⟨_, rfl⟩
  have hk : W1.heap[tb]? = some (.cells tagsC 23) := by rw [hW1]; exact hp_alloc_at htb
  have hb1 : Below w0.heap.size w0 W1 := by rw [hW1]; exact (Below.refl _ _).alloc (Nat.le_refl _) _
  obtain ⟨j, hj⟩ : ∃ j, j = sel % 14 := ⟨_, rfl⟩
  have hj14 : j < 14 := by omega
  obtain ⟨tg, htg⟩ : ∃ t, t = tagsL.getD j 0 := ⟨_, rfl⟩
  have hta := tag_at ⟨j, hj14⟩
  rw [← htg] at hta
  have ct : W1.cell? ⟨tb, j, none⟩ = some (.int .u8 tg) := cell_at hk hta.1
  have htr := hta.2
  have w1 : IntKind.i64.wrap (sel : Int) = (sel : Int) := by rw [IntKind.wrap_i64]; omega
  have m1 : Int.tmod (sel : Int) 14 = (j : Int) := by rw [hj]; rfl
  have m2 : (sel : Int) % 14 = (j : Int) := by omega
  have w2 : IntKind.i64.wrap (j : Int) = (j : Int) := by rw [IntKind.wrap_i64]; omega
  have j0 : (0 : Int) ≤ (j : Int) := by omega
  have j1 : (j : Int) < 14 := by omega
  have hs1 : (224 : Int) ≤ (sel : Int) := by omega
  have HTB := hide htb
  have HW1 := hide hW1
  have HB1 := hide hb1
  have HTR := hide htr
  have HS := hide hs
  have HM := hide hm
  unfold tagsC at HW1
  clear htb hW1 hk hb1 hj htg hta htr hs hm hsel
  go_enter Ybad.func3, Ybad.ntmps3
  go_upto_region 4 with fail
  rw [← HW1.out, ← HTB.out]
  go_upto_region 7 with fail
  have h4 : md % 4 = 0 ∨ md % 4 = 1 ∨ md % 4 = 2 ∨ md % 4 = 3 := by omega
  rcases h4 with h | h | h | h
  · apply st5_nil0 (w0 := w0) (tg := (sel : Int)) (md := md) (hmd := HM.out) (hBl := HB1.out) (hm := h) (hQ := rfl) (hK := by assumption)
  · apply st5_nil1 (w0 := w0) (tg := (sel : Int)) (md := md) (hmd := HM.out) (hBl := HB1.out) (hm := h) (hQ := rfl) (hK := by assumption)
  · apply st5_nil2 (w0 := w0) (tg := (sel : Int)) (md := md) (hmd := HM.out) (hBl := HB1.out) (hm := h) (hQ := rfl) (hK := by assumption)
  · apply st5_nil3 (w0 := w0) (tg := (sel : Int)) (md := md) (hmd := HM.out) (hBl := HB1.out) (hm := h) (hQ := rfl) (hK := by assumption)

set_option maxRecDepth 100000 in
set_option maxHeartbeats 3200000 in
theorem law_nil_lo (w0 : World) (sel md : Nat) (hs : sel < 256) (hm : md < 256) (hsel : sel < 224) :
    Calls Ybad.prog 3 #[.slice none 0 0, .int .u8 (sel : Nat), .int .u8 (md : Nat)] w0 fun e w' => e = .returned (.bool true) ∧ Below w0.heap.size w0 w' := by
  obtain ⟨tb, htb⟩ : ∃ tb, tb = w0.heap.size := ⟨_, rfl⟩
  obtain ⟨W1, hW1⟩ : ∃ W1, W1 = w0.alloc (.cells tagsC 23) := ⟨_, rfl⟩
  have hk : W1.heap[tb]? = some (.cells tagsC 23) := by rw [hW1]; exact hp_alloc_at htb
  have hb1 : Below w0.heap.size w0 W1 := by rw [hW1]; exact (Below.refl _ _).alloc (Nat.le_refl _) _
  obtain ⟨j, hj⟩ : ∃ j, j = sel % 14 := ⟨_, rfl⟩
  have hj14 : j < 14 := by omega
  obtain ⟨tg, htg⟩ : ∃ t, t = tagsL.getD j 0 := ⟨_, rfl⟩
  have hta := tag_at ⟨j, hj14⟩
  rw [← htg] at hta
  have ct : W1.cell? ⟨tb, j, none⟩ = some (.int .u8 tg) := cell_at hk hta.1
  have htr := hta.2
  have w1 : IntKind.i64.wrap (sel : Int) = (sel : Int) := by rw [IntKind.wrap_i64]; omega
  have m1 : Int.tmod (sel : Int) 14 = (j : Int) := by rw [hj]; rfl
  have m2 : (sel : Int) % 14 = (j : Int) := by omega
  have w2 : IntKind.i64.wrap (j : Int) = (j : Int) := by rw [IntKind.wrap_i64]; omega
  have j0 : (0 : Int) ≤ (j : Int) := by omega
  have j1 : (j : Int) < 14 := by omega
  have hs1 : ¬ (224 : Int) ≤ (sel : Int) := by omega
  have HTB := hide htb
  have HW1 := hide hW1
  have HB1 := hide hb1
  have HTR := hide htr
  have HS := hide hs
  have HM := hide hm
  unfold tagsC at HW1
  clear htb hW1 hk hb1 hj htg hta htr hs hm hsel
  go_enter Ybad.func3, Ybad.ntmps3
  go_upto_region 4 with fail
  rw [← HW1.out, ← HTB.out]
  go_upto_region 7 with fail
  have h4 : md % 4 = 0 ∨ md % 4 = 1 ∨ md % 4 = 2 ∨ md % 4 = 3 := by omega
  rcases h4 with h | h | h | h
  · apply st5_nil0 (w0 := w0) (tg := tg) (md := md) (hmd := HM.out) (hBl := HB1.out) (hm := h) (hQ := rfl) (hK := by assumption)
  · apply st5_nil1 (w0 := w0) (tg := tg) (md := md) (hmd := HM.out) (hBl := HB1.out) (hm := h) (hQ := rfl) (hK := by assumption)
  · apply st5_nil2 (w0 := w0) (tg := tg) (md := md) (hmd := HM.out) (hBl := HB1.out) (hm := h) (hQ := rfl) (hK := by assumption)
  · apply st5_nil3 (w0 := w0) (tg := tg) (md := md) (hmd := HM.out) (hBl := HB1.out) (hm := h) (hQ := rfl) (hK := by assumption)

set_option maxRecDepth 100000 in
set_option maxHeartbeats 3200000 in
theorem law_some_hi (w0 : World) (rb ro rc n : Nat) (xs : List Int) (hraw : Bytes w0 rb ro n xs) (hn1 : n ≤ 1048576) (a4 a6 : Addr) (tz : ∀ w', Below w0.heap.size w0 w' → Tab w' ∧ Zs w' a4 a6) (sel md : Nat) (hs : sel < 256) (hm : md < 256) (hsel : 224 ≤ sel) :
    Calls Ybad.prog 3 #[.slice (some ⟨rb, ro, none⟩) n rc, .int .u8 (sel : Nat), .int .u8 (md : Nat)] w0 fun e w' => e = .returned (.bool true) ∧ Below w0.heap.size w0 w' := by
  obtain ⟨tb, htb⟩ : ∃ tb, tb = w0.heap.size := ⟨_, rfl⟩
  obtain ⟨W1, hW1⟩ : ∃ W1, W1 = w0.alloc (.cells tagsC 23) := ⟨_, rfl⟩
  have hk : W1.heap[tb]? = some (.cells tagsC 23) := by rw [hW1]; exact hp_alloc_at htb
  have hb1 : Below w0.heap.size w0 W1 := by rw [hW1]; exact (Below.refl _ _).alloc (Nat.le_refl _) _
  obtain ⟨j, hj⟩ : ∃ j, j = sel % 14 := ⟨_, rfl⟩
  have hj14 : j < 14 := by omega
  obtain ⟨tg, htg⟩ : ∃ t, t = tagsL.getD j 0 := ⟨_, rfl⟩
  have hta := tag_at ⟨j, hj14⟩
  rw [← htg] at hta
  have ct : W1.cell? ⟨tb, j, none⟩ = some (.int .u8 tg) := cell_at hk hta.1
  have htr := hta.2
  have w1 : IntKind.i64.wrap (sel : Int) = (sel : Int) := by rw [IntKind.wrap_i64]; omega
  have m1 : Int.tmod (sel : Int) 14 = (j : Int) := by rw [hj]; rfl
  have m2 : (sel : Int) % 14 = (j : Int) := by omega
  have w2 : IntKind.i64.wrap (j : Int) = (j : Int) := by rw [IntKind.wrap_i64]; omega
  have j0 : (0 : Int) ≤ (j : Int) := by omega
  have j1 : (j : Int) < 14 := by omega
  have hs1 : (224 : Int) ≤ (sel : Int) := by omega
  have HTB := hide htb
  have HW1 := hide hW1
  have HB1 := hide hb1
  have HTR := hide htr
  have HS := hide hs
  have HM := hide hm
  unfold tagsC at HW1
  have jn : ¬ (1048576 : Int) < (n : Int) := by omega
  have HRAW := hide hraw
  have HTZ := hide tz
  clear hraw tz
  clear htb hW1 hk hb1 hj htg hta htr hs hm hsel
  go_enter Ybad.func3, Ybad.ntmps3
  go_upto_region 4 with fail
  rw [← HW1.out, ← HTB.out]
  go_upto_region 7 with fail
  have h4 : md % 4 = 0 ∨ md % 4 = 1 ∨ md % 4 = 2 ∨ md % 4 = 3 := by omega
  rcases h4 with h | h | h | h
  · apply st5_some00 (w0 := w0) (tg := (sel : Int)) (md := md) (hmd := HM.out) (hBl := HB1.out) (ht := by have := HS.out; omega) (a4 := a4) (a6 := a6) (tz := HTZ.out) (rb := rb) (ro := ro) (rc := rc) (n := n) (xs := xs) (hraw := HRAW.out.on HB1.out) (hn1 := hn1) (hm := h) (hQ := rfl) (hK := by assumption)
  · by_cases hw : n = 0
    · apply st5_some10 (w0 := w0) (tg := (sel : Int)) (md := md) (hmd := HM.out) (hBl := HB1.out) (ht := by have := HS.out; omega) (a4 := a4) (a6 := a6) (tz := HTZ.out) (rb := rb) (ro := ro) (rc := rc) (n := n) (xs := xs) (hraw := HRAW.out.on HB1.out) (hn1 := hn1) (hm := h) (hw := hw) (hQ := rfl) (hK := by assumption)
    · apply st5_some11 (w0 := w0) (tg := (sel : Int)) (md := md) (hmd := HM.out) (hBl := HB1.out) (ht := by have := HS.out; omega) (a4 := a4) (a6 := a6) (tz := HTZ.out) (rb := rb) (ro := ro) (rc := rc) (n := n) (xs := xs) (hraw := HRAW.out.on HB1.out) (hn1 := hn1) (hm := h) (hw := by omega) (hQ := rfl) (hK := by assumption)
  · by_cases hw : n < 2
    · apply st5_some20 (w0 := w0) (tg := (sel : Int)) (md := md) (hmd := HM.out) (hBl := HB1.out) (ht := by have := HS.out; omega) (a4 := a4) (a6 := a6) (tz := HTZ.out) (rb := rb) (ro := ro) (rc := rc) (n := n) (xs := xs) (hraw := HRAW.out.on HB1.out) (hn1 := hn1) (hm := h) (hw := hw) (hQ := rfl) (hK := by assumption)
    · by_cases hv : n - 2 ≤ 127
      · apply st5_some21 (w0 := w0) (tg := (sel : Int)) (md := md) (hmd := HM.out) (hBl := HB1.out) (ht := by have := HS.out; omega) (a4 := a4) (a6 := a6) (tz := HTZ.out) (rb := rb) (ro := ro) (rc := rc) (n := n) (xs := xs) (hraw := HRAW.out.on HB1.out) (hn1 := hn1) (hm := h) (hw := by omega) (hv := hv) (hQ := rfl) (hK := by assumption)
      · apply st5_some22 (w0 := w0) (tg := (sel : Int)) (md := md) (hmd := HM.out) (hBl := HB1.out) (ht := by have := HS.out; omega) (a4 := a4) (a6 := a6) (tz := HTZ.out) (rb := rb) (ro := ro) (rc := rc) (n := n) (xs := xs) (hraw := HRAW.out.on HB1.out) (hn1 := hn1) (hm := h) (hw := by omega) (hv := by omega) (hQ := rfl) (hK := by assumption)
  · by_cases hw : n < 3
    · apply st5_some30 (w0 := w0) (tg := (sel : Int)) (md := md) (hmd := HM.out) (hBl := HB1.out) (ht := by have := HS.out; omega) (a4 := a4) (a6 := a6) (tz := HTZ.out) (rb := rb) (ro := ro) (rc := rc) (n := n) (xs := xs) (hraw := HRAW.out.on HB1.out) (hn1 := hn1) (hm := h) (hw := hw) (hQ := rfl) (hK := by assumption)
    · by_cases hv : n - 3 ≤ 255
      · apply st5_some31 (w0 := w0) (tg := (sel : Int)) (md := md) (hmd := HM.out) (hBl := HB1.out) (ht := by have := HS.out; omega) (a4 := a4) (a6 := a6) (tz := HTZ.out) (rb := rb) (ro := ro) (rc := rc) (n := n) (xs := xs) (hraw := HRAW.out.on HB1.out) (hn1 := hn1) (hm := h) (hw := by omega) (hv := hv) (hQ := rfl) (hK := by assumption)
      · apply st5_some32 (w0 := w0) (tg := (sel : Int)) (md := md) (hmd := HM.out) (hBl := HB1.out) (ht := by have := HS.out; omega) (a4 := a4) (a6 := a6) (tz := HTZ.out) (rb := rb) (ro := ro) (rc := rc) (n := n) (xs := xs) (hraw := HRAW.out.on HB1.out) (hn1 := hn1) (hm := h) (hw := by omega) (hv := by omega) (hQ := rfl) (hK := by assumption)

set_option maxRecDepth 100000 in
set_option maxHeartbeats 3200000 in
theorem law_some_lo (w0 : World) (rb ro rc n : Nat) (xs : List Int) (hraw : Bytes w0 rb ro n xs) (hn1 : n ≤ 1048576) (a4 a6 : Addr) (tz : ∀ w', Below w0.heap.size w0 w' → Tab w' ∧ Zs w' a4 a6) (sel md : Nat) (hs : sel < 256) (hm : md < 256) (hsel : sel < 224) :
    Calls Ybad.prog 3 #[.slice (some ⟨rb, ro, none⟩) n rc, .int .u8 (sel : Nat), .int .u8 (md : Nat)] w0 fun e w' => e = .returned (.bool true) ∧ Below w0.heap.size w0 w' := by
  obtain ⟨tb, htb⟩ : ∃ tb, tb = w0.heap.size := ⟨_, rfl⟩
  obtain ⟨W1, hW1⟩ : ∃ W1, W1 = w0.alloc (.cells tagsC 23) := ⟨_, rfl⟩
  have hk : W1.heap[tb]? = some (.cells tagsC 23) := by rw [hW1]; exact hp_alloc_at htb
  have hb1 : Below w0.heap.size w0 W1 := by rw [hW1]; exact (Below.refl _ _).alloc (Nat.le_refl _) _
  obtain ⟨j, hj⟩ : ∃ j, j = sel % 14 := ⟨_, rfl⟩
  have hj14 : j < 14 := by omega
  obtain ⟨tg, htg⟩ : ∃ t, t = tagsL.getD j 0 := ⟨_, rfl⟩
  have hta := tag_at ⟨j, hj14⟩
  rw [← htg] at hta
  have ct : W1.cell? ⟨tb, j, none⟩ = some (.int .u8 tg) := cell_at hk hta.1
  have htr := hta.2
  have w1 : IntKind.i64.wrap (sel : Int) = (sel : Int) := by rw [IntKind.wrap_i64]; omega
  have m1 : Int.tmod (sel : Int) 14 = (j : Int) := by rw [hj]; rfl
  have m2 : (sel : Int) % 14 = (j : Int) := by omega
  have w2 : IntKind.i64.wrap (j : Int) = (j : Int) := by rw [IntKind.wrap_i64]; omega
  have j0 : (0 : Int) ≤ (j : Int) := by omega
  have j1 : (j : Int) < 14 := by omega
  have hs1 : ¬ (224 : Int) ≤ (sel : Int) := by omega
  have HTB := hide htb
  have HW1 := hide hW1
  have HB1 := hide hb1
  have HTR := hide htr
  have HS := hide hs
  have HM := hide hm
  unfold tagsC at HW1
  have jn : ¬ (1048576 : Int) < (n : Int) := by omega
  have HRAW := hide hraw
  have HTZ := hide tz
  clear hraw tz
  clear htb hW1 hk hb1 hj htg hta htr hs hm hsel
  go_enter Ybad.func3, Ybad.ntmps3
  go_upto_region 4 with fail
  rw [← HW1.out, ← HTB.out]
  go_upto_region 7 with fail
  have h4 : md % 4 = 0 ∨ md % 4 = 1 ∨ md % 4 = 2 ∨ md % 4 = 3 := by omega
  rcases h4 with h | h | h | h
  · apply st5_some00 (w0 := w0) (tg := tg) (md := md) (hmd := HM.out) (hBl := HB1.out) (ht := HTR.out) (a4 := a4) (a6 := a6) (tz := HTZ.out) (rb := rb) (ro := ro) (rc := rc) (n := n) (xs := xs) (hraw := HRAW.out.on HB1.out) (hn1 := hn1) (hm := h) (hQ := rfl) (hK := by assumption)
  · by_cases hw : n = 0
    · apply st5_some10 (w0 := w0) (tg := tg) (md := md) (hmd := HM.out) (hBl := HB1.out) (ht := HTR.out) (a4 := a4) (a6 := a6) (tz := HTZ.out) (rb := rb) (ro := ro) (rc := rc) (n := n) (xs := xs) (hraw := HRAW.out.on HB1.out) (hn1 := hn1) (hm := h) (hw := hw) (hQ := rfl) (hK := by assumption)
    · apply st5_some11 (w0 := w0) (tg := tg) (md := md) (hmd := HM.out) (hBl := HB1.out) (ht := HTR.out) (a4 := a4) (a6 := a6) (tz := HTZ.out) (rb := rb) (ro := ro) (rc := rc) (n := n) (xs := xs) (hraw := HRAW.out.on HB1.out) (hn1 := hn1) (hm := h) (hw := by omega) (hQ := rfl) (hK := by assumption)
  · by_cases hw : n < 2
    · apply st5_some20 (w0 := w0) (tg := tg) (md := md) (hmd := HM.out) (hBl := HB1.out) (ht := HTR.out) (a4 := a4) (a6 := a6) (tz := HTZ.out) (rb := rb) (ro := ro) (rc := rc) (n := n) (xs := xs) (hraw := HRAW.out.on HB1.out) (hn1 := hn1) (hm := h) (hw := hw) (hQ := rfl) (hK := by assumption)
    · by_cases hv : n - 2 ≤ 127
      · apply st5_some21 (w0 := w0) (tg := tg) (md := md) (hmd := HM.out) (hBl := HB1.out) (ht := HTR.out) (a4 := a4) (a6 := a6) (tz := HTZ.out) (rb := rb) (ro := ro) (rc := rc) (n := n) (xs := xs) (hraw := HRAW.out.on HB1.out) (hn1 := hn1) (hm := h) (hw := by omega) (hv := hv) (hQ := rfl) (hK := by assumption)
      · apply st5_some22 (w0 := w0) (tg := tg) (md := md) (hmd := HM.out) (hBl := HB1.out) (ht := HTR.out) (a4 := a4) (a6 := a6) (tz := HTZ.out) (rb := rb) (ro := ro) (rc := rc) (n := n) (xs := xs) (hraw := HRAW.out.on HB1.out) (hn1 := hn1) (hm := h) (hw := by omega) (hv := by omega) (hQ := rfl) (hK := by assumption)
  · by_cases hw : n < 3
    · apply st5_some30 (w0 := w0) (tg := tg) (md := md) (hmd := HM.out) (hBl := HB1.out) (ht := HTR.out) (a4 := a4) (a6 := a6) (tz := HTZ.out) (rb := rb) (ro := ro) (rc := rc) (n := n) (xs := xs) (hraw := HRAW.out.on HB1.out) (hn1 := hn1) (hm := h) (hw := hw) (hQ := rfl) (hK := by assumption)
    · by_cases hv : n - 3 ≤ 255
      · apply st5_some31 (w0 := w0) (tg := tg) (md := md) (hmd := HM.out) (hBl := HB1.out) (ht := HTR.out) (a4 := a4) (a6 := a6) (tz := HTZ.out) (rb := rb) (ro := ro) (rc := rc) (n := n) (xs := xs) (hraw := HRAW.out.on HB1.out) (hn1 := hn1) (hm := h) (hw := by omega) (hv := hv) (hQ := rfl) (hK := by assumption)
      · apply st5_some32 (w0 := w0) (tg := tg) (md := md) (hmd := HM.out) (hBl := HB1.out) (ht := HTR.out) (a4 := a4) (a6 := a6) (tz := HTZ.out) (rb := rb) (ro := ro) (rc := rc) (n := n) (xs := xs) (hraw := HRAW.out.on HB1.out) (hn1 := hn1) (hm := h) (hw := by omega) (hv := by omega) (hQ := rfl) (hK := by assumption)
end Go.Proofs.YbulkdphmDoor
