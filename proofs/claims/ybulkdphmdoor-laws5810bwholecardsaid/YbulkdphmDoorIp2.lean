/-
  Addresses: small methods.
-/
import Derived.Test.YbulkdphmDoorRows
import Derived.WalkKit
import Derived.ProofKit
import Derived.OpenShut
import Derived.WalkLawsBesides
import Derived.BigQuiet
import Derived.Laws.BitsAllLaws
import Derived.Laws.StructEq
import Derived.Outline
import Derived.Test.YbulkdphmDoorIp1
import Derived.Deep.RegionWith
import Derived.Deep.RegionHeld3
import Derived.Deep.DeepCutAuto
import Derived.Deep.DrawnRows
import Derived.Handy
namespace Go.Proofs.YbulkdphmDoor
open Go.ChangeShapes Go.WideShapes Go.ChangeAt Go.RowKit
open Go.ChangeMaps (setBlock)
set_option linter.unusedVariables false


open Go.Lib (byteCells decDigits)
abbrev adr (hi lo : Nat) (z : Option Addr) : Value := .agg #[.int .u64 (hi : Int), .int .u64 (lo : Int), .pointer z]

theorem v4_0 (hi lo : Nat) (z : Option Addr) (w : World) (hlo : lo < 18446744073709551616) : Calls Ybad.prog 45 #[adr hi lo z, .int .u8 0] w fun e w' => e = .returned (.int .u8 ((lo / 16777216 % 256 : Nat) : Int)) ∧ Below w.heap.size w w' := by
  obtain ⟨r, hr⟩ : ∃ r, r = lo / 16777216 % 256 := ⟨_, rfl⟩
  rw [← hr]
  have hw : IntKind.u8.wrap ((lo : Int) / 16777216) = (r : Int) := by rw [IntKind.wrap_u8]; omega
  have HR := hide hr
  clear hr
  go_enter Ybad.func45, Ybad.ntmps45
  go_wp2_with fail
  go_ret
  exact ⟨rfl, (Below.refl _ _).alloc (Nat.le_refl _) _⟩

theorem v4_1 (hi lo : Nat) (z : Option Addr) (w : World) (hlo : lo < 18446744073709551616) : Calls Ybad.prog 45 #[adr hi lo z, .int .u8 1] w fun e w' => e = .returned (.int .u8 ((lo / 65536 % 256 : Nat) : Int)) ∧ Below w.heap.size w w' := by
  obtain ⟨r, hr⟩ : ∃ r, r = lo / 65536 % 256 := ⟨_, rfl⟩
  rw [← hr]
  have hw : IntKind.u8.wrap ((lo : Int) / 65536) = (r : Int) := by rw [IntKind.wrap_u8]; omega
  have HR := hide hr
  clear hr
  go_enter Ybad.func45, Ybad.ntmps45
  go_wp2_with fail
  go_ret
  exact ⟨rfl, (Below.refl _ _).alloc (Nat.le_refl _) _⟩

theorem v4_2 (hi lo : Nat) (z : Option Addr) (w : World) (hlo : lo < 18446744073709551616) : Calls Ybad.prog 45 #[adr hi lo z, .int .u8 2] w fun e w' => e = .returned (.int .u8 ((lo / 256 % 256 : Nat) : Int)) ∧ Below w.heap.size w w' := by
  obtain ⟨r, hr⟩ : ∃ r, r = lo / 256 % 256 := ⟨_, rfl⟩
  rw [← hr]
  have hw : IntKind.u8.wrap ((lo : Int) / 256) = (r : Int) := by rw [IntKind.wrap_u8]; omega
  have HR := hide hr
  clear hr
  go_enter Ybad.func45, Ybad.ntmps45
  go_wp2_with fail
  go_ret
  exact ⟨rfl, (Below.refl _ _).alloc (Nat.le_refl _) _⟩

theorem v4_3 (hi lo : Nat) (z : Option Addr) (w : World) (hlo : lo < 18446744073709551616) : Calls Ybad.prog 45 #[adr hi lo z, .int .u8 3] w fun e w' => e = .returned (.int .u8 ((lo % 256 : Nat) : Int)) ∧ Below w.heap.size w w' := by
  obtain ⟨r, hr⟩ : ∃ r, r = lo % 256 := ⟨_, rfl⟩
  rw [← hr]
  have hw : IntKind.u8.wrap ((lo : Int)) = (r : Int) := by rw [IntKind.wrap_u8]; omega
  have HR := hide hr
  clear hr
  go_enter Ybad.func45, Ybad.ntmps45
  go_wp2_with fail
  go_ret
  exact ⟨rfl, (Below.refl _ _).alloc (Nat.le_refl _) _⟩

set_option maxRecDepth 100000 in
theorem isValid_z0 (hi lo : Nat) (w : World) (a4 a6 : Addr) (Z : Zs w a4 a6) : Calls Ybad.prog 33 #[adr hi lo none] w fun e w' => e = .returned (.bool false) ∧ Below w.heap.size w w' := by
  have hb : Below w.heap.size w (w.alloc (.cells #[.int .u64 (hi : Int), .int .u64 (lo : Int), .pointer none] 59)) := (Below.refl _ _).alloc (Nat.le_refl _) _
  have z0 := (Z.on hb).z0
  have k : (Op.equalIn 9999 55 (.pointer none) (.pointer none)).run Ybad.prog (w.alloc (.cells #[.int .u64 (hi : Int), .int .u64 (lo : Int), .pointer none] 59)) = .ok true (w.alloc (.cells #[.int .u64 (hi : Int), .int .u64 (lo : Int), .pointer none] 59)) := eqP_nils 9998 _
  have HB := hide hb
  clear hb Z
  go_enter Ybad.func33, Ybad.ntmps33
  go_wp2_with fail
  go_ret
  exact ⟨rfl, HB.out⟩
set_option maxRecDepth 100000 in
theorem isValid_some (hi lo : Nat) (a : Addr) (w : World) (a4 a6 : Addr) (Z : Zs w a4 a6) : Calls Ybad.prog 33 #[adr hi lo (some a)] w fun e w' => e = .returned (.bool true) ∧ Below w.heap.size w w' := by
  have hb : Below w.heap.size w (w.alloc (.cells #[.int .u64 (hi : Int), .int .u64 (lo : Int), .pointer (some a)] 59)) := (Below.refl _ _).alloc (Nat.le_refl _) _
  have z0 := (Z.on hb).z0
  have k : (Op.equalIn 9999 55 (.pointer (some a)) (.pointer none)).run Ybad.prog (w.alloc (.cells #[.int .u64 (hi : Int), .int .u64 (lo : Int), .pointer (some a)] 59)) = .ok false (w.alloc (.cells #[.int .u64 (hi : Int), .int .u64 (lo : Int), .pointer (some a)] 59)) := eqP_nil 9998 _ _
  have HB := hide hb
  clear hb Z
  go_enter Ybad.func33, Ybad.ntmps33
  go_wp2_with fail
  go_ret
  exact ⟨rfl, HB.out⟩

set_option maxRecDepth 100000 in
theorem is4_z4 (hi lo : Nat) (w : World) (a4 a6 : Addr) (Z : Zs w a4 a6) : Calls Ybad.prog 26 #[adr hi lo (some a4)] w fun e w' => e = .returned (.bool true) ∧ Below w.heap.size w w' := by
  have hb : Below w.heap.size w (w.alloc (.cells #[.int .u64 (hi : Int), .int .u64 (lo : Int), .pointer (some a4)] 59)) := (Below.refl _ _).alloc (Nat.le_refl _) _
  have Z' := Z.on hb
  have z4 := Z'.z4
  have k : (Op.equalIn 9999 55 (.pointer (some a4)) (.pointer (some a4))).run Ybad.prog (w.alloc (.cells #[.int .u64 (hi : Int), .int .u64 (lo : Int), .pointer (some a4)] 59)) = .ok true (w.alloc (.cells #[.int .u64 (hi : Int), .int .u64 (lo : Int), .pointer (some a4)] 59)) := eqP_same 9998 _ _
  have HB := hide hb
  clear hb Z Z'
  go_enter Ybad.func26, Ybad.ntmps26
  go_wp2_with fail
  go_ret
  exact ⟨rfl, HB.out⟩

set_option maxRecDepth 100000 in
theorem is4_z6 (hi lo : Nat) (w : World) (a4 a6 : Addr) (Z : Zs w a4 a6) : Calls Ybad.prog 26 #[adr hi lo (some a6)] w fun e w' => e = .returned (.bool false) ∧ Below w.heap.size w w' := by
  have hb : Below w.heap.size w (w.alloc (.cells #[.int .u64 (hi : Int), .int .u64 (lo : Int), .pointer (some a6)] 59)) := (Below.refl _ _).alloc (Nat.le_refl _) _
  have Z' := Z.on hb
  have z4 := Z'.z4
  have k : (Op.equalIn 9999 55 (.pointer (some a6)) (.pointer (some a4))).run Ybad.prog (w.alloc (.cells #[.int .u64 (hi : Int), .int .u64 (lo : Int), .pointer (some a6)] 59)) = .ok false (w.alloc (.cells #[.int .u64 (hi : Int), .int .u64 (lo : Int), .pointer (some a6)] 59)) := eqP_ne 9998 _ _ _ (same_ne a6 a4 _ (fun e => Z'.ne e.symm) Z'.b6 Z'.b4)
  have HB := hide hb
  clear hb Z Z'
  go_enter Ybad.func26, Ybad.ntmps26
  go_wp2_with fail
  go_ret
  exact ⟨rfl, HB.out⟩

theorem or_nat (i X Y : Nat) (h : X % 2 ^ i = 0) (hY : Y < 2 ^ i) (h1 : X < 18446744073709551616) (h2 : Y < 18446744073709551616) : bits .or .u64 (X : Int) (Y : Int) = ((X + Y : Nat) : Int) := by
  rw [u64_or_nat X Y h1 h2, nat_join i X Y h hY]
def lo4 (b0 b1 b2 b3 : Nat) : Nat := 281470681743360 + b0 * 16777216 + b1 * 65536 + b2 * 256 + b3

set_option maxRecDepth 100000 in
theorem from4 (b0 b1 b2 b3 : Nat) (h0 : b0 < 256) (h1 : b1 < 256) (h2 : b2 < 256) (h3 : b3 < 256) (w : World) (a4 a6 : Addr) (Z : Zs w a4 a6) :
    Calls Ybad.prog 31 #[.agg #[.int .u8 b0, .int .u8 b1, .int .u8 b2, .int .u8 b3]] w fun e w' => e = .returned (adr 0 (lo4 b0 b1 b2 b3) (some a4)) ∧ Below w.heap.size w w' := by
  have w0 : IntKind.u64.wrap (b0 : Int) = (b0 : Int) := by rw [IntKind.wrap_u64]; omega
  have w1 : IntKind.u64.wrap (b1 : Int) = (b1 : Int) := by rw [IntKind.wrap_u64]; omega
  have w2 : IntKind.u64.wrap (b2 : Int) = (b2 : Int) := by rw [IntKind.wrap_u64]; omega
  have w3 : IntKind.u64.wrap (b3 : Int) = (b3 : Int) := by rw [IntKind.wrap_u64]; omega
  have s0 : IntKind.u64.wrap ((b0 : Int) * 16777216) = ((b0 * 16777216 : Nat) : Int) := by rw [IntKind.wrap_u64]; omega
  have s1 : IntKind.u64.wrap ((b1 : Int) * 65536) = ((b1 * 65536 : Nat) : Int) := by rw [IntKind.wrap_u64]; omega
  have s2 : IntKind.u64.wrap ((b2 : Int) * 256) = ((b2 * 256 : Nat) : Int) := by rw [IntKind.wrap_u64]; omega
  obtain ⟨c0, hc0⟩ : ∃ c, c = b0 * 16777216 := ⟨_, rfl⟩
  obtain ⟨c1, hc1⟩ : ∃ c, c = b1 * 65536 := ⟨_, rfl⟩
  obtain ⟨c2, hc2⟩ : ∃ c, c = b2 * 256 := ⟨_, rfl⟩
  rw [← hc0] at s0
  rw [← hc1] at s1
  rw [← hc2] at s2
  obtain ⟨t0, ht0⟩ : ∃ t, t = 281470681743360 + c0 := ⟨_, rfl⟩
  obtain ⟨t1, ht1⟩ : ∃ t, t = t0 + c1 := ⟨_, rfl⟩
  obtain ⟨t2, ht2⟩ : ∃ t, t = t1 + c2 := ⟨_, rfl⟩
  obtain ⟨t3, ht3⟩ : ∃ t, t = t2 + b3 := ⟨_, rfl⟩
  have o0 := or_nat 32 281470681743360 c0 (by decide) (by omega) (by omega) (by omega)
  have o1 := or_nat 24 t0 c1 (by omega) (by omega) (by omega) (by omega)
  have o2 := or_nat 16 t1 c2 (by omega) (by omega) (by omega) (by omega)
  have o3 := or_nat 8 t2 b3 (by omega) (by omega) (by omega) (by omega)
  rw [← ht0] at o0
  rw [← ht1] at o1
  rw [← ht2] at o2
  rw [← ht3] at o3
  rw [show ((281470681743360 : Nat) : Int) = 281470681743360 from rfl] at o0
  have hfin : lo4 b0 b1 b2 b3 = t3 := by unfold lo4; omega
  rw [hfin]
  have hb : Below w.heap.size w ((w.alloc (.cells #[.int .u8 b0, .int .u8 b1, .int .u8 b2, .int .u8 b3] 71)).alloc (.cells #[.int .u64 0, .int .u64 0, .pointer none] 59)) := ((Below.refl _ _).alloc (Nat.le_refl _) _).alloc (by simp) _
  have z4 := (Z.on hb).z4
  clear hc0 hc1 hc2 ht0 ht1 ht2 ht3 hfin Z hb
  go_enter Ybad.func31, Ybad.ntmps31
  go_wp2_with fail
  go_returns
  refine ⟨rfl, ?_⟩
  exact ((Below.refl _ _).alloc (Nat.le_refl _) _).alloc (by simp) _
end Go.Proofs.YbulkdphmDoor
