/-
  The law's walk.
-/
import Derived.Test.YbulkdpksRows
import Derived.WalkKit
import Derived.ProofKit
import Derived.OpenShut
import Derived.WalkLawsBesides
import Derived.BigQuiet
import Derived.Laws.BitsAllLaws
import Derived.Laws.StructEq
import Derived.Outline
import Derived.Test.YbulkdpksFill
import Derived.Deep.RegionWith
import Derived.Deep.RegionHeld3
import Derived.Deep.DeepCutAuto
import Derived.Deep.DrawnRows
namespace Go.Proofs.Ybulkdpks
open Go.ChangeShapes Go.WideShapes Go.ChangeAt Go.RowKit
open Go.ChangeMaps (setBlock)
set_option linter.unusedVariables false

theorem pow_step (e k : Nat) (he : e ≤ 8) (h : 2 ^ e < k) (hk : k ≤ 255) : e + 1 ≤ 8 := by
  rcases Nat.lt_or_ge 7 e with h8 | h8
  · have : 2 ^ 8 ≤ 2 ^ e := Nat.pow_le_pow_right (by decide) h8
    omega
  · omega

set_option maxRecDepth 100000 in
set_option maxHeartbeats 3200000 in
/-- The law returns true; of what was there nothing has turned. -/
theorem law_walk (slow : Bool) (room : Int) (aw np k hd0 : Nat) (done t : Int) (a1 : aw ≤ 255) (n1 : np ≤ 255) (k1 : k ≤ 255) (d1 : hd0 ≤ 255) (r0 : -9223372036854775808 ≤ room) (r1 : room ≤ 9223372036854775807) (w0 : World) :
    Calls Yba.prog 4 #[.bool slow, .int .i64 room, .int .u8 (aw : Nat), .int .u8 (np : Nat), .int .u8 (k : Nat), .int .u8 (hd0 : Nat), .int .u64 done, .int .i64 t] w0 fun e w' => e = .returned (.bool true) ∧ Below w0.heap.size w0 w' := by
  have v1 : IntKind.i64.wrap (aw : Int) = (aw : Int) := by rw [IntKind.wrap_i64]; omega
  have v2 : IntKind.i64.wrap (np : Int) = (np : Int) := by rw [IntKind.wrap_i64]; omega
  have v3 : IntKind.i64.wrap (k : Int) = (k : Int) := by rw [IntKind.wrap_i64]; omega
  by_cases hk0 : k = 0
  · have hk' : ¬ (0 : Int) < (k : Int) := by omega
    have HK0 := hide hk0
    clear hk0
    go_enter Yba.func4, Yba.ntmps4
    go_upto_region 9 with fail
    apply stage6_zero (slow := slow) (room := room) (aw := aw) (np := np) (k := k) (hd0 := hd0) (done := done) (t := t) (w0 := w0) (L := 0) (n1 := n1) (k1 := k1) (a1 := a1) (d1 := d1) (r0 := r0) (r1 := r1) (hsz := rfl) (hBl := Below.refl _ _) (hk0 := HK0.out) (hL0 := rfl) (hQ := rfl) (hK := by assumption)
  · have hk' : (0 : Int) < (k : Int) := by omega
    go_enter Yba.func4, Yba.ntmps4
    go_upto_region 7 with fail
    go_loop [20] (fun v => ∃ e L : Nat, 3 ≤ e ∧ e ≤ 8 ∧ Hid (L = 2 ^ e) ∧ v = .int .i64 L) (fun v => 512 - (intOf v).toNat)
    case atStart => exact ⟨3, 8, by omega, by omega, rfl, rfl⟩
    case round =>
      obtain ⟨e, L, e3, e8, hL, rfl⟩ := hrel
      have hL8 : L ≤ 256 := by rw [hL.out]; exact Nat.le_trans (Nat.pow_le_pow_right (by decide) e8) (by decide)
      have hL3 : 8 ≤ L := by rw [hL.out]; exact Nat.le_trans (by decide) (Nat.pow_le_pow_right (n := 2) (by decide) e3)
      by_cases hlt : L < k
      · have e8' := pow_step e k e8 (by rw [← hL.out]; exact hlt) k1
        have hL2 : L * 2 = 2 ^ (e + 1) := by rw [hL.out, Nat.pow_succ]
        have HL2 := hide hL2
        have hlt' : (L : Int) < (k : Int) := by omega
        clear hL2
        go_wp2_with fail
        go_round
        case rel => exact ⟨e + 1, L * 2, by omega, e8', HL2, by go_num⟩
        case measure => simp [intOf]; omega
      · have hlt' : ¬ (L : Int) < (k : Int) := by omega
        go_upto_region 9 with fail
        apply stage6_pos (slow := slow) (room := room) (aw := aw) (np := np) (k := k) (hd0 := hd0) (done := done) (t := t) (w0 := w0) (e := e) (L := L) (n1 := n1) (k1 := k1) (a1 := a1) (d1 := d1) (r0 := r0) (r1 := r1) (hsz := rfl) (hBl := Below.refl _ _) (e3 := e3) (e9 := by omega) (hL := hL.out) (hkL := by omega) (hQ := rfl) (hK := by assumption)
end Go.Proofs.Ybulkdpks
