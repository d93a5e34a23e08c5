/-
  Addr.appendTo4.
-/
import Derived.Test.YbulkdphmDoorRows
import Derived.WalkKit
import Derived.ProofKit
import Derived.OpenShut
import Derived.WalkLawsBesides
import Derived.BigQuiet
import Derived.Laws.BitsAllLaws
import Derived.Laws.StructEq
import Derived.Outline
import Derived.Test.YbulkdphmDoorIp2
import Derived.Deep.RegionWith
import Derived.Deep.RegionHeld3
import Derived.Deep.DeepCutAuto
import Derived.Deep.DrawnRows
import Derived.Handy
namespace Go.Proofs.YbulkdphmDoor
open Go.ChangeShapes Go.WideShapes Go.ChangeAt Go.RowKit
open Go.ChangeMaps (setBlock)
set_option linter.unusedVariables false
set_option linter.unusedSimpArgs false


open Go.Lib (byteCells decDigits)
theorem Ow.trans {B : Nat} {v v' : Value} {l l' : List UInt8} {a b c : World} (h : Ow B v l a b) (k : Ow B v' l' b c) : Ow B v' l' a c := ⟨k.1, h.2.1.trans k.2.1, h.2.2.trans k.2.2⟩
theorem Ow.on {B : Nat} {v : Value} {l : List UInt8} {a b c : World} (h : Ow B v l a b) (hB : B ≤ b.heap.size) (k : Below b.heap.size b c) : Ow B v l a c :=
  ⟨own_on h.1 k, h.2.1.trans ⟨k.os, k.tape, k.output, k.size, fun i hi => k.block i (by omega)⟩, h.2.2.trans (fun i o hi _ _ => (k.block i (lt_of_block hi)).trans hi)⟩
theorem Ow.box {B : Nat} {v : Value} {l : List UInt8} {a b : World} (h : Ow B v l a b) {k : Nat} {c : Array Value} {t : TypeId} (hk : a.heap[k]? = some (.cells c t)) (ht : t ≠ 5) : b.heap[k]? = some (.cells c t) :=
  h.2.2 k _ hk (by simp) (fun c' fz e => by cases e; exact ht rfl)
theorem Ow.sz {B : Nat} {v : Value} {l : List UInt8} {a b : World} (h : Ow B v l a b) (hB : B ≤ a.heap.size) : B ≤ b.heap.size := Nat.le_trans hB h.2.1.size
theorem Ow.refl {B : Nat} {v : Value} {l : List UInt8} {a : World} (h : a.ownsRow B 5 1 v l.length (byteCells l)) : Ow B v l a a := ⟨h, Below.refl _ _, Lib.OthersKept.refl _ _ _⟩

def txt4 (lo : Nat) : List UInt8 := decDigits (lo / 16777216 % 256) ++ [46] ++ decDigits (lo / 65536 % 256) ++ [46] ++ decDigits (lo / 256 % 256) ++ [46] ++ decDigits (lo % 256)

set_option maxRecDepth 100000 in
set_option maxHeartbeats 3200000 in
/-- Addr.appendTo4 -/
theorem to4 (B hi lo : Nat) (z : Option Addr) (v : Value) (l : List UInt8) (w : World) (hown : w.ownsRow B 5 1 v l.length (byteCells l)) (hB : B ≤ w.heap.size) (hlim : l.length ≤ 100) (hlo : lo < 18446744073709551616) :
    Calls Ybad.prog 34 #[adr hi lo z, v] w fun e w' => ∃ v', e = .returned v' ∧ Ow B v' (l ++ txt4 lo) w w' := by
  obtain ⟨R, hR⟩ : ∃ R, R = l ++ txt4 lo := ⟨_, rfl⟩
  rw [← hR]
  have HR := hide hR
  clear hR
  obtain ⟨tb, htb⟩ : ∃ tb, tb = w.heap.size := ⟨_, rfl⟩
  obtain ⟨W0, hW0⟩ : ∃ W0, W0 = w.alloc (.cells #[.int .u64 (hi : Int), .int .u64 (lo : Int), .pointer z] 59) := ⟨_, rfl⟩
  have hbx : W0.heap[tb]? = some (.cells #[.int .u64 (hi : Int), .int .u64 (lo : Int), .pointer z] 59) := by rw [hW0]; exact hp_alloc_at htb
  have h0 : Ow B v l w W0 := by rw [hW0]; exact (Ow.refl hown).on hB ((Below.refl _ _).alloc (Nat.le_refl _) _)
  have HB0 : Hid (B ≤ W0.heap.size) := h0.sz hB
  have H0 := hide h0
  have HW0 := hide hW0
  have HBX := hide hbx
  have HTB := hide htb
  obtain ⟨x0, hx0⟩ : ∃ x, x = lo / 16777216 % 256 := ⟨_, rfl⟩
  have X0 := hide hx0
  have xb0 : x0 < 256 := by omega
  have xl0 := dec_len x0 (by omega)
  obtain ⟨x1, hx1⟩ : ∃ x, x = lo / 65536 % 256 := ⟨_, rfl⟩
  have X1 := hide hx1
  have xb1 : x1 < 256 := by omega
  have xl1 := dec_len x1 (by omega)
  obtain ⟨x2, hx2⟩ : ∃ x, x = lo / 256 % 256 := ⟨_, rfl⟩
  have X2 := hide hx2
  have xb2 : x2 < 256 := by omega
  have xl2 := dec_len x2 (by omega)
  obtain ⟨x3, hx3⟩ : ∃ x, x = lo % 256 := ⟨_, rfl⟩
  have X3 := hide hx3
  have xb3 : x3 < 256 := by omega
  have xl3 := dec_len x3 (by omega)
  clear hown h0 hW0 hbx htb hx0 hx1 hx2 hx3
  go_enter Ybad.func34, Ybad.ntmps34
  go_upto_region 1 with fail
  rw [← HTB.out, ← HW0.out]
  have cb0 : W0.cell? ⟨tb, 0, none⟩ = some (.int .u64 (hi : Int)) := cell_at HBX.out rfl
  have cc0 : W0.cell? ⟨tb, 1, none⟩ = some (.int .u64 (lo : Int)) := cell_at HBX.out rfl
  have cd0 : W0.cell? ⟨tb, 2, none⟩ = some (.pointer z) := cell_at HBX.out rfl
  have HV0 : Hid (Calls Ybad.prog 45 #[adr hi lo z, .int .u8 0] W0 fun e w' => e = .returned (.int .u8 (x0 : Int)) ∧ Below W0.heap.size W0 w') := by rw [X0.out]; exact v4_0 hi lo z W0 hlo
  have HD0 : Hid (∀ w', Below W0.heap.size W0 w' → Calls Ybad.prog 44 #[v, .int .u8 (x0 : Int)] w' fun e w'' => ∃ v', e = .returned v' ∧ (Ow B v' (l ++ decDigits x0) w w'' ∧ w''.heap[tb]? = some (.cells #[.int .u64 (hi : Int), .int .u64 (lo : Int), .pointer z] 59))) := by
    intro w' hbw
    have ho := H0.out.on HB0.out hbw
    refine (appDec B v (l) x0 w' ho.1 (Nat.le_trans HB0.out hbw.size) (by (try simp only [List.length_append, List.length_cons, List.length_nil]); omega) xb0).mono ?_
    rintro e w'' ⟨v', he, hk⟩
    exact ⟨v', he, ho.trans hk, hk.box ((hbw.block tb (lt_of_block HBX.out)).trans HBX.out) (by decide)⟩
  go_upto_region 2 with (first | (go_at_call 45; refine HV0.out.mono ?_; rintro e wa0 ⟨rfl, hh⟩; have HA0 := hide hh; clear hh) | (go_at_call 44; refine (HD0.out _ HA0.out).mono ?_; rintro e wd0 ⟨vd0, rfl, hh⟩; have HE0 := hide hh.1; have HF0 := hide hh.2; clear hh))
  have HS0 : Hid (B ≤ wd0.heap.size) := HE0.out.sz hB
  clear cb0 cc0 cd0
  go_upto_region 3 with (at_builtin; refine wpList_byte rfl _ _ rfl B vd0 (l ++ decDigits x0) 46 rfl rfl HE0.out.1 HS0.out (by simp only [List.length_append, List.length_cons, List.length_nil]; omega) ?_; intro vp0 wp0 ho hbl hk; have HP0 : Hid (Ow B vp0 (l ++ decDigits x0 ++ [46]) w wp0 ∧ wp0.heap[tb]? = some (.cells #[.int .u64 (hi : Int), .int .u64 (lo : Int), .pointer z] 59)) := (And.intro (Ow.trans HE0.out ⟨ho, hbl, hk⟩) (Ow.box (B := B) (v := vp0) (l := l ++ decDigits x0 ++ [46]) ⟨ho, hbl, hk⟩ HF0.out (by decide))); clear ho hbl hk)
  have HG0 := hide HP0.out.1
  have HH0 := hide HP0.out.2
  have HI0 : Hid (B ≤ wp0.heap.size) := HG0.out.sz hB
  have cb1 : wp0.cell? ⟨tb, 0, none⟩ = some (.int .u64 (hi : Int)) := cell_at HH0.out rfl
  have cc1 : wp0.cell? ⟨tb, 1, none⟩ = some (.int .u64 (lo : Int)) := cell_at HH0.out rfl
  have cd1 : wp0.cell? ⟨tb, 2, none⟩ = some (.pointer z) := cell_at HH0.out rfl
  have HV1 : Hid (Calls Ybad.prog 45 #[adr hi lo z, .int .u8 1] wp0 fun e w' => e = .returned (.int .u8 (x1 : Int)) ∧ Below wp0.heap.size wp0 w') := by rw [X1.out]; exact v4_1 hi lo z wp0 hlo
  have HD1 : Hid (∀ w', Below wp0.heap.size wp0 w' → Calls Ybad.prog 44 #[vp0, .int .u8 (x1 : Int)] w' fun e w'' => ∃ v', e = .returned v' ∧ (Ow B v' (l ++ decDigits x0 ++ [46] ++ decDigits x1) w w'' ∧ w''.heap[tb]? = some (.cells #[.int .u64 (hi : Int), .int .u64 (lo : Int), .pointer z] 59))) := by
    intro w' hbw
    have ho := HG0.out.on HI0.out hbw
    refine (appDec B vp0 (l ++ decDigits x0 ++ [46]) x1 w' ho.1 (Nat.le_trans HI0.out hbw.size) (by (try simp only [List.length_append, List.length_cons, List.length_nil]); omega) xb1).mono ?_
    rintro e w'' ⟨v', he, hk⟩
    exact ⟨v', he, ho.trans hk, hk.box ((hbw.block tb (lt_of_block HH0.out)).trans HH0.out) (by decide)⟩
  go_upto_region 4 with (first | (go_at_call 45; refine HV1.out.mono ?_; rintro e wa1 ⟨rfl, hh⟩; have HA1 := hide hh; clear hh) | (go_at_call 44; refine (HD1.out _ HA1.out).mono ?_; rintro e wd1 ⟨vd1, rfl, hh⟩; have HE1 := hide hh.1; have HF1 := hide hh.2; clear hh))
  have HS1 : Hid (B ≤ wd1.heap.size) := HE1.out.sz hB
  clear cb1 cc1 cd1
  go_upto_region 5 with (at_builtin; refine wpList_byte rfl _ _ rfl B vd1 (l ++ decDigits x0 ++ [46] ++ decDigits x1) 46 rfl rfl HE1.out.1 HS1.out (by simp only [List.length_append, List.length_cons, List.length_nil]; omega) ?_; intro vp1 wp1 ho hbl hk; have HP1 : Hid (Ow B vp1 (l ++ decDigits x0 ++ [46] ++ decDigits x1 ++ [46]) w wp1 ∧ wp1.heap[tb]? = some (.cells #[.int .u64 (hi : Int), .int .u64 (lo : Int), .pointer z] 59)) := (And.intro (Ow.trans HE1.out ⟨ho, hbl, hk⟩) (Ow.box (B := B) (v := vp1) (l := l ++ decDigits x0 ++ [46] ++ decDigits x1 ++ [46]) ⟨ho, hbl, hk⟩ HF1.out (by decide))); clear ho hbl hk)
  have HG1 := hide HP1.out.1
  have HH1 := hide HP1.out.2
  have HI1 : Hid (B ≤ wp1.heap.size) := HG1.out.sz hB
  have cb2 : wp1.cell? ⟨tb, 0, none⟩ = some (.int .u64 (hi : Int)) := cell_at HH1.out rfl
  have cc2 : wp1.cell? ⟨tb, 1, none⟩ = some (.int .u64 (lo : Int)) := cell_at HH1.out rfl
  have cd2 : wp1.cell? ⟨tb, 2, none⟩ = some (.pointer z) := cell_at HH1.out rfl
  have HV2 : Hid (Calls Ybad.prog 45 #[adr hi lo z, .int .u8 2] wp1 fun e w' => e = .returned (.int .u8 (x2 : Int)) ∧ Below wp1.heap.size wp1 w') := by rw [X2.out]; exact v4_2 hi lo z wp1 hlo
  have HD2 : Hid (∀ w', Below wp1.heap.size wp1 w' → Calls Ybad.prog 44 #[vp1, .int .u8 (x2 : Int)] w' fun e w'' => ∃ v', e = .returned v' ∧ (Ow B v' (l ++ decDigits x0 ++ [46] ++ decDigits x1 ++ [46] ++ decDigits x2) w w'' ∧ w''.heap[tb]? = some (.cells #[.int .u64 (hi : Int), .int .u64 (lo : Int), .pointer z] 59))) := by
    intro w' hbw
    have ho := HG1.out.on HI1.out hbw
    refine (appDec B vp1 (l ++ decDigits x0 ++ [46] ++ decDigits x1 ++ [46]) x2 w' ho.1 (Nat.le_trans HI1.out hbw.size) (by (try simp only [List.length_append, List.length_cons, List.length_nil]); omega) xb2).mono ?_
    rintro e w'' ⟨v', he, hk⟩
    exact ⟨v', he, ho.trans hk, hk.box ((hbw.block tb (lt_of_block HH1.out)).trans HH1.out) (by decide)⟩
  go_upto_region 6 with (first | (go_at_call 45; refine HV2.out.mono ?_; rintro e wa2 ⟨rfl, hh⟩; have HA2 := hide hh; clear hh) | (go_at_call 44; refine (HD2.out _ HA2.out).mono ?_; rintro e wd2 ⟨vd2, rfl, hh⟩; have HE2 := hide hh.1; have HF2 := hide hh.2; clear hh))
  have HS2 : Hid (B ≤ wd2.heap.size) := HE2.out.sz hB
  clear cb2 cc2 cd2
  go_upto_region 7 with (at_builtin; refine wpList_byte rfl _ _ rfl B vd2 (l ++ decDigits x0 ++ [46] ++ decDigits x1 ++ [46] ++ decDigits x2) 46 rfl rfl HE2.out.1 HS2.out (by simp only [List.length_append, List.length_cons, List.length_nil]; omega) ?_; intro vp2 wp2 ho hbl hk; have HP2 : Hid (Ow B vp2 (l ++ decDigits x0 ++ [46] ++ decDigits x1 ++ [46] ++ decDigits x2 ++ [46]) w wp2 ∧ wp2.heap[tb]? = some (.cells #[.int .u64 (hi : Int), .int .u64 (lo : Int), .pointer z] 59)) := (And.intro (Ow.trans HE2.out ⟨ho, hbl, hk⟩) (Ow.box (B := B) (v := vp2) (l := l ++ decDigits x0 ++ [46] ++ decDigits x1 ++ [46] ++ decDigits x2 ++ [46]) ⟨ho, hbl, hk⟩ HF2.out (by decide))); clear ho hbl hk)
  have HG2 := hide HP2.out.1
  have HH2 := hide HP2.out.2
  have HI2 : Hid (B ≤ wp2.heap.size) := HG2.out.sz hB
  have cb3 : wp2.cell? ⟨tb, 0, none⟩ = some (.int .u64 (hi : Int)) := cell_at HH2.out rfl
  have cc3 : wp2.cell? ⟨tb, 1, none⟩ = some (.int .u64 (lo : Int)) := cell_at HH2.out rfl
  have cd3 : wp2.cell? ⟨tb, 2, none⟩ = some (.pointer z) := cell_at HH2.out rfl
  have HV3 : Hid (Calls Ybad.prog 45 #[adr hi lo z, .int .u8 3] wp2 fun e w' => e = .returned (.int .u8 (x3 : Int)) ∧ Below wp2.heap.size wp2 w') := by rw [X3.out]; exact v4_3 hi lo z wp2 hlo
  have HD3 : Hid (∀ w', Below wp2.heap.size wp2 w' → Calls Ybad.prog 44 #[vp2, .int .u8 (x3 : Int)] w' fun e w'' => ∃ v', e = .returned v' ∧ (Ow B v' (l ++ decDigits x0 ++ [46] ++ decDigits x1 ++ [46] ++ decDigits x2 ++ [46] ++ decDigits x3) w w'' ∧ w''.heap[tb]? = some (.cells #[.int .u64 (hi : Int), .int .u64 (lo : Int), .pointer z] 59))) := by
    intro w' hbw
    have ho := HG2.out.on HI2.out hbw
    refine (appDec B vp2 (l ++ decDigits x0 ++ [46] ++ decDigits x1 ++ [46] ++ decDigits x2 ++ [46]) x3 w' ho.1 (Nat.le_trans HI2.out hbw.size) (by (try simp only [List.length_append, List.length_cons, List.length_nil]); omega) xb3).mono ?_
    rintro e w'' ⟨v', he, hk⟩
    exact ⟨v', he, ho.trans hk, hk.box ((hbw.block tb (lt_of_block HH2.out)).trans HH2.out) (by decide)⟩
  go_upto_region 8 with (first | (go_at_call 45; refine HV3.out.mono ?_; rintro e wa3 ⟨rfl, hh⟩; have HA3 := hide hh; clear hh) | (go_at_call 44; refine (HD3.out _ HA3.out).mono ?_; rintro e wd3 ⟨vd3, rfl, hh⟩; have HE3 := hide hh.1; have HF3 := hide hh.2; clear hh))
  have HS3 : Hid (B ≤ wd3.heap.size) := HE3.out.sz hB
  clear cb3 cc3 cd3
  go_wp2_with fail
  go_ret
  refine ⟨_, rfl, ?_⟩
  rw [HR.out]
  unfold txt4
  rw [← X0.out, ← X1.out, ← X2.out, ← X3.out]
  have := HE3.out
  simp only [List.append_assoc] at this ⊢
  exact this
end Go.Proofs.YbulkdphmDoor
