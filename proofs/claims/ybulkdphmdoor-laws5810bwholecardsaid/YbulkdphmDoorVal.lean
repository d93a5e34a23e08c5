/-
  (*decoder).value.
-/
import Derived.Test.YbulkdphmDoorRows
import Derived.WalkKit
import Derived.ProofKit
import Derived.OpenShut
import Derived.WalkLawsBesides
import Derived.BigQuiet
import Derived.Laws.BitsAllLaws
import Derived.Laws.StructEq
import Derived.Outline
import Derived.Test.YbulkdphmDoorPvC
import Derived.Test.YbulkdphmDoorElem
import Derived.Deep.RegionWith
import Derived.Deep.RegionHeld3
import Derived.Deep.DeepCutAuto
import Derived.Deep.DrawnRows
import Derived.Handy
import Derived.Laws.ResultCell
namespace Go.Proofs.YbulkdphmDoor
open Go.ChangeShapes Go.WideShapes Go.ChangeAt Go.RowKit
open Go.ChangeMaps (setBlock)
set_option linter.unusedVariables false
set_option linter.unusedSimpArgs false

open Go.Lib (byteCells decDigits itoa)
theorem Bytes.kept {S : Nat → Prop} {w w' : World} {b off n : Nat} {xs : List Int} (h : Bytes w b off n xs) (hk : Kept S w w') (hb : ¬ S b) : Bytes w' b off n xs :=
  ⟨h.len, h.byte, fun i hi => by
    have hlt := h.lt (by omega)
    have e : w'.cell? ⟨b, off + i, none⟩ = w.cell? ⟨b, off + i, none⟩ := World.cell?_of_block (hk.block b hlt hb)
    rw [e]; exact h.cell i hi⟩
theorem kept_of_below {S : Nat → Prop} {w w' : World} (h : Below w.heap.size w w') : Kept S w w' := ⟨h.os, h.tape, h.output, h.size, fun k hk _ => h.block k hk⟩

set_option maxRecDepth 100000 in
set_option maxHeartbeats 1600000 in
/-- (*decoder).value where there is no whole element. -/
theorem value_none (db : Nat) (tg : Int) (w : World) (HN : ∀ w', Below w.heap.size w w' → Calls Ybad.prog 15 #[.pointer (some ⟨db, 0, none⟩), .int .u8 tg] w' fun e w'' => e = .returned (.tuple #[.slice none 0 0, .bool false]) ∧ w'' = w') :
    Calls Ybad.prog 9 #[.pointer (some ⟨db, 0, none⟩), .int .u8 tg] w fun e w' => e = .returned (.tuple #[.agg #[.string ⟨#[]⟩, .string ⟨#[]⟩, .bool false], .bool false]) ∧ Below w.heap.size w w' := by
  obtain ⟨rb, hrb⟩ : ∃ rb, rb = w.heap.size := ⟨_, rfl⟩
  obtain ⟨W0, hW0⟩ : ∃ W0, W0 = w.alloc (.cells #[.string ⟨#[]⟩, .string ⟨#[]⟩, .bool false] 27) := ⟨_, rfl⟩
  have hrk : W0.heap[rb]? = some (.cells #[.string ⟨#[]⟩, .string ⟨#[]⟩, .bool false] 27) := by rw [hW0]; exact hp_alloc_at hrb
  have hb : Below w.heap.size w W0 := by rw [hW0]; exact (Below.refl _ _).alloc (Nat.le_refl _) _
  have HE := hide (HN W0 hb)
  have HRB := hide hrb
  have HW0 := hide hW0
  have HRK := hide hrk
  have HB := hide hb
  obtain ⟨r0, r1, r2, y0, y1, y2⟩ := rb_keep hrk (Below.refl _ W0)
  clear HN hrb hW0 hrk hb
  go_enter Ybad.func9, Ybad.ntmps9
  go_upto_region 1 with fail
  rw [← HW0.out, ← HRB.out]
  go_wp2_with (go_at_call 15; refine HE.out.mono ?_; rintro e w' ⟨rfl, rfl⟩)
  obtain ⟨W2, hW2⟩ : ∃ W2, W2 = ((w'.setCell ⟨rb, 0, none⟩ (.string ⟨#[]⟩)).setCell ⟨rb, 1, none⟩ (.string ⟨#[]⟩)).setCell ⟨rb, 2, none⟩ (.bool false) := ⟨_, rfl⟩
  rw [← hW2]
  have hk2 : W2.heap[rb]? = some (.cells #[.string ⟨#[]⟩, .string ⟨#[]⟩, .bool false] 27) := by
    rw [hW2, hp_setCell_eq (hp_setCell_eq (hp_setCell_eq HRK.out))]
    rfl
  try simp only [Exit.inBlock, Exit.then]
  refine bodyPost_ret (res_two rfl _ _ ⟨rb, 0, none⟩ _ rfl (load27 rb _ _ _ W2 (cell_at hk2 rfl) (cell_at hk2 rfl) (cell_at hk2 rfl))) rfl ?_
  refine ⟨rfl, ?_⟩
  have hr := HRB.out
  rw [hW2]
  exact Below.setCell (Below.setCell (Below.setCell HB.out (by simp; omega) _) (by simp; omega) _) (by simp; omega) _

/-- What value leaves: the answer, and the rest of the data. -/
def VAns (tg x0 : Int) (cs : List Int) (sv : ByteArray) (nl ok : Bool) : Prop :=
  if x0 = tg then nl = pvN tg ∧ ok = pvK tg cs ∧ (∀ t, pvS tg cs = some t → sv = t) else sv = ⟨#[]⟩ ∧ nl = false ∧ ok = false

set_option maxRecDepth 100000 in
set_option maxHeartbeats 1600000 in
/-- (*decoder).value at a whole element. -/
theorem value_some (db b off n c : Nat) (xs : List Int) (tg : Int) (w : World) (hd : w.heap[db]? = some (.cells #[.slice (some ⟨b, off, none⟩) n c] 33)) (h : Bytes w b off n xs) (hc : n ≤ c) (hn : n ≤ 1048576) (hne : b ≠ db) (s L : Nat) (hN : nextOf xs = some (s, L)) (htab : Tab w) (a4 a6 : Addr) (Z : Zs w a4 a6) (B0 : Nat) (hB0 : B0 ≤ db) (hTZ : ∀ w', Below B0 w w' → Tab w' ∧ Zs w' a4 a6) :
    Calls Ybad.prog 9 #[.pointer (some ⟨db, 0, none⟩), .int .u8 tg] w fun e w' => ∃ (sv : ByteArray) (nl ok : Bool) (o2 c2 : Nat), e = .returned (.tuple #[.agg #[.string ⟨#[]⟩, .string sv, .bool nl], .bool ok]) ∧ VAns tg (xs.getD 0 0) ((xs.take (s + L)).drop s) sv nl ok ∧
      w'.cell? ⟨db, 0, none⟩ = some (.slice (some ⟨b, o2, none⟩) (n - (s + L)) c2) ∧ Bytes w b o2 (n - (s + L)) (xs.drop (s + L)) ∧ Kept (fun x => x = db) w w' := by
  have hfit := nextOf_fits h.byte hN
  have hl := h.len
  have hdlt := lt_of_block hd
  obtain ⟨rb, hrb⟩ : ∃ rb, rb = w.heap.size := ⟨_, rfl⟩
  obtain ⟨W0, hW0⟩ : ∃ W0, W0 = w.alloc (.cells #[.string ⟨#[]⟩, .string ⟨#[]⟩, .bool false] 27) := ⟨_, rfl⟩
  have hrk : W0.heap[rb]? = some (.cells #[.string ⟨#[]⟩, .string ⟨#[]⟩, .bool false] 27) := by rw [hW0]; exact hp_alloc_at hrb
  have hb : Below w.heap.size w W0 := by rw [hW0]; exact (Below.refl _ _).alloc (Nat.le_refl _) _
  have hd0 := (hb.block db hdlt).trans hd
  have HE := hide (element_some db b off n c xs tg W0 (cell_at hd0 rfl) (frozen_at hd0) (h.on hb) hc hn s L hN)
  obtain ⟨x0, hx0⟩ : ∃ x, x = xs.getD 0 0 := ⟨_, rfl⟩
  rw [← hx0] at HE
  rw [← hx0]
  have nrd : rb ≠ db := by omega
  -- behind element
  have AFT : Hid (∀ (o2 c2 q : Nat), Kept (fun x => x = db) w ((W0.setCell ⟨db, 0, none⟩ (.slice (some ⟨b, o2, none⟩) (n - (s + L)) c2)).drewN q) ∧ ((W0.setCell ⟨db, 0, none⟩ (.slice (some ⟨b, o2, none⟩) (n - (s + L)) c2)).drewN q).heap[rb]? = some (.cells #[.string ⟨#[]⟩, .string ⟨#[]⟩, .bool false] 27) ∧ ((W0.setCell ⟨db, 0, none⟩ (.slice (some ⟨b, o2, none⟩) (n - (s + L)) c2)).drewN q).heap[db]? = some (.cells #[.slice (some ⟨b, o2, none⟩) (n - (s + L)) c2] 33)) := by
    intro o2 c2 q
    refine ⟨⟨hb.os, hb.tape, hb.output, by show w.heap.size ≤ (W0.setCell _ _).heap.size; rw [size_setCell]; exact hb.size, fun k hk hkd => ?_⟩, ?_, ?_⟩
    · show (W0.setCell _ _).heap[k]? = _
      rw [hp_setCell_ne (by simpa using hkd)]
      exact hb.block k hk
    · show (W0.setCell _ _).heap[rb]? = _
      rw [hp_setCell_ne (by simpa using nrd)]
      exact hrk
    · show (W0.setCell _ _).heap[db]? = _
      rw [hp_setCell_eq hd0]
      rfl
  have HRB := hide hrb
  have HW0 := hide hW0
  have HH := hide h
  have HFIT := hide hfit
  have HTZ := hide hTZ
  have HDL := hide hdlt
  have HBW := hide hb
  clear hd h hN htab Z hrb hW0 hrk hb hd0 hx0 hl hfit hTZ hdlt
  go_enter Ybad.func9, Ybad.ntmps9
  go_upto_region 1 with fail
  rw [← HW0.out, ← HRB.out]
  go_upto_region 2 with (go_at_call 15; refine HE.out.mono ?_; rintro e w1 ⟨o1, c1, o2, c2, q, rfl, rfl, hLc, hB1, hB2⟩; have HLC := hide hLc; have HB1 := hide hB1; have HB2 := hide hB2; clear hLc hB1 hB2)
  obtain ⟨W1, hW1⟩ : ∃ W1, W1 = (W0.setCell ⟨db, 0, none⟩ (.slice (some ⟨b, o2, none⟩) (n - (s + L)) c2)).drewN q := ⟨_, rfl⟩
  have aft := AFT.out o2 c2 q
  rw [← hW1] at aft ⊢
  have HA1 := hide aft.1
  have HR1 := hide aft.2.1
  have HD1 := hide aft.2.2
  have HW1 := hide hW1
  have bw2 : Bytes w b o2 (n - (s + L)) (xs.drop (s + L)) := by
    refine ⟨HB2.out.len, HB2.out.byte, fun i hi => ?_⟩
    have h1 := HB2.out.cell i hi
    have hbl := HH.out.lt (by have := HFIT.out; omega)
    exact ((HBW.out.cell (p := ⟨b, o2 + i, none⟩) hbl).symm).trans h1
  have HBW2 := hide bw2
  obtain ⟨r0, r1, r2, y0, y1, y2⟩ := rb_keep HR1.out (Below.refl _ W1)
  clear aft hW1 AFT bw2
  by_cases hxt : x0 = tg
  · have hxe : (x0 == tg) = true := by simp [hxt]
    have HXT := hide hxt
    have hB1' : Bytes W1 b o1 L ((xs.take (s + L)).drop s) := by
      refine ⟨HB1.out.len, HB1.out.byte, fun i hi => ?_⟩
      have h1 := HB1.out.cell i hi
      have e : W1.cell? ⟨b, o1 + i, none⟩ = W0.cell? ⟨b, o1 + i, none⟩ := by
        rw [HW1.out]
        show (W0.setCell _ _).cell? _ = _
        exact World.cell?_setCell_other _ _ _ _ (by simp <;> omega)
      rw [e]; exact h1
    have tz := HTZ.out W1 (HA1.out.below (B := B0) (by have := HDL.out; omega) (fun k hk => by omega))
    have HPV : Hid (Calls Ybad.prog 16 #[.int .u8 tg, .slice (some ⟨b, o1, none⟩) L c1] W1 fun e w' => ∃ sv : ByteArray, e = .returned (.tuple #[.agg #[.string ⟨#[]⟩, .string sv, .bool (pvN tg)], .bool (pvK tg ((xs.take (s + L)).drop s))]) ∧ ((∀ t, pvS tg ((xs.take (s + L)).drop s) = some t → sv = t) ∧ Below W1.heap.size W1 w') ∧ w'.cell? ⟨rb, 0, none⟩ = some (.string ⟨#[]⟩) ∧ w'.cell? ⟨rb, 1, none⟩ = some (.string ⟨#[]⟩) ∧ w'.cell? ⟨rb, 2, none⟩ = some (.bool false) ∧ w'.frozen? ⟨rb, 0, none⟩ = false ∧ w'.frozen? ⟨rb, 1, none⟩ = false ∧ w'.frozen? ⟨rb, 2, none⟩ = false) := by
      refine (pv_any b o1 L c1 _ W1 hB1' HLC.out (by have := HFIT.out; have := HH.out.len; omega) tz.1 a4 a6 tz.2 tg).mono ?_
      rintro e w' ⟨sv, he, hs, hbl⟩
      exact ⟨sv, he, ⟨hs, hbl⟩, rb_keep HR1.out hbl⟩
    obtain ⟨nl, hnl⟩ : ∃ nl, nl = pvN tg := ⟨_, rfl⟩
    obtain ⟨ok, hok⟩ : ∃ ok, ok = pvK tg ((xs.take (s + L)).drop s) := ⟨_, rfl⟩
    rw [← hnl, ← hok] at HPV
    have HNL := hide hnl
    have HOK := hide hok
    clear hxt hB1' tz hnl hok r0 r1 r2 y0 y1 y2
    go_wp2_with (go_at_call 16; refine HPV.out.mono ?_; rintro e W3 ⟨sv, rfl, hh, r0, r1, r2, y0, y1, y2⟩; have H3 := hide hh; clear hh)
    obtain ⟨W2, hW2⟩ : ∃ W2, W2 = ((W3.setCell ⟨rb, 0, none⟩ (.string ⟨#[]⟩)).setCell ⟨rb, 1, none⟩ (.string sv)).setCell ⟨rb, 2, none⟩ (.bool nl) := ⟨_, rfl⟩
    rw [← hW2]
    have k3 := (H3.out.2.block rb (lt_of_block HR1.out)).trans HR1.out
    have d3 := (H3.out.2.block db (lt_of_block HD1.out)).trans HD1.out
    have hk2 : W2.heap[rb]? = some (.cells #[.string ⟨#[]⟩, .string sv, .bool nl] 27) := by
      rw [hW2, hp_setCell_eq (hp_setCell_eq (hp_setCell_eq k3))]
      rfl
    have hd2 : W2.heap[db]? = some (.cells #[.slice (some ⟨b, o2, none⟩) (n - (s + L)) c2] 33) := by
      rw [hW2, hp_setCell_ne (by simp; omega), hp_setCell_ne (by simp; omega), hp_setCell_ne (by simp; omega)]
      exact d3
    have hr := HRB.out
    have hkk : Kept (fun x => x = db) w W2 := by
      rw [hW2]
      exact (((HA1.out.trans (kept_of_below H3.out.2)).setCell (Or.inr (by simp; omega)) _).setCell (Or.inr (by simp; omega)) _).setCell (Or.inr (by simp; omega)) _
    try simp only [Exit.inBlock, Exit.then]
    refine bodyPost_ret (res_two rfl _ _ ⟨rb, 0, none⟩ _ rfl (load27 rb _ _ _ W2 (cell_at hk2 rfl) (cell_at hk2 rfl) (cell_at hk2 rfl))) rfl ?_
    refine ⟨sv, nl, ok, o2, c2, rfl, ?_, cell_at hd2 rfl, HBW2.out, hkk⟩
    unfold VAns
    rw [if_pos HXT.out]
    exact ⟨HNL.out, HOK.out, H3.out.1⟩
  · have hxe : (x0 == tg) = false := by simp [hxt]
    have HXT := hide hxt
    clear hxt
    go_wp2_with fail
    obtain ⟨W2, hW2⟩ : ∃ W2, W2 = ((W1.setCell ⟨rb, 0, none⟩ (.string ⟨#[]⟩)).setCell ⟨rb, 1, none⟩ (.string ⟨#[]⟩)).setCell ⟨rb, 2, none⟩ (.bool false) := ⟨_, rfl⟩
    rw [← hW2]
    have hk2 : W2.heap[rb]? = some (.cells #[.string ⟨#[]⟩, .string ⟨#[]⟩, .bool false] 27) := by
      rw [hW2, hp_setCell_eq (hp_setCell_eq (hp_setCell_eq HR1.out))]
      rfl
    have hd2 : W2.heap[db]? = some (.cells #[.slice (some ⟨b, o2, none⟩) (n - (s + L)) c2] 33) := by
      rw [hW2, hp_setCell_ne (by simp; omega), hp_setCell_ne (by simp; omega), hp_setCell_ne (by simp; omega)]
      exact HD1.out
    have hr := HRB.out
    have hkk : Kept (fun x => x = db) w W2 := by
      rw [hW2]
      exact ((HA1.out.setCell (Or.inr (by simp; omega)) _).setCell (Or.inr (by simp; omega)) _).setCell (Or.inr (by simp; omega)) _
    try simp only [Exit.inBlock, Exit.then]
    refine bodyPost_ret (res_two rfl _ _ ⟨rb, 0, none⟩ _ rfl (load27 rb _ _ _ W2 (cell_at hk2 rfl) (cell_at hk2 rfl) (cell_at hk2 rfl))) rfl ?_
    refine ⟨⟨#[]⟩, false, false, o2, c2, rfl, ?_, cell_at hd2 rfl, HBW2.out, hkk⟩
    unfold VAns
    rw [if_neg HXT.out]
    exact ⟨rfl, rfl, rfl⟩
end Go.Proofs.YbulkdphmDoor
