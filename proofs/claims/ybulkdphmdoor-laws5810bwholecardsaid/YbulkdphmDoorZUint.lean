/-
  snmp.zzs5810buint.
-/
import Derived.Test.YbulkdphmDoorRows
import Derived.WalkKit
import Derived.ProofKit
import Derived.OpenShut
import Derived.WalkLawsBesides
import Derived.BigQuiet
import Derived.Laws.BitsAllLaws
import Derived.Laws.StructEq
import Derived.Outline
import Derived.Test.YbulkdphmDoorPUint
namespace Go.Proofs.YbulkdphmDoor
open Go.ChangeShapes Go.WideShapes Go.ChangeAt Go.RowKit
open Go.ChangeMaps (setBlock)
set_option linter.unusedVariables false

theorem dz_byte {xs : List Int} (h : ∀ x ∈ xs, 0 ≤ x ∧ x < 256) : ∀ x ∈ dz xs, 0 ≤ x ∧ x < 256 := by
  match xs with
  | [] => exact h
  | [x] => exact h
  | x :: y :: ys =>
    intro z hz
    rw [dz] at hz
    split at hz
    · exact dz_byte (xs := y :: ys) (fun a ha => h a (by simp at ha ⊢; exact Or.inr ha)) z hz
    · exact h z hz

theorem zuint_nil (p : Option Addr) (c : Nat) (w : World) : Calls Ybad.prog 6 #[.slice p 0 c] w fun e w' => e = .returned (.tuple #[.string ⟨(Lib.decDigits 0).toArray⟩, .bool false]) ∧ w' = w := by
  go_enter Ybad.func6, Ybad.ntmps6
  go_wp2_with fail
  go_ret2
  exact ⟨by kernel_rfl, rfl⟩

set_option maxHeartbeats 1600000 in
/-- snmp.zzs5810buint -/
theorem zuint_ok (b off n c : Nat) (xs : List Int) (w : World) (h : Bytes w b off n xs) (hc : n ≤ c) (h1 : 0 < n) (hn : n ≤ 1048576) (h8 : (dz xs).length ≤ 8) (htab : Tab w) :
    Calls Ybad.prog 6 #[.slice (some ⟨b, off, none⟩) n c] w fun e w' => e = .returned (.tuple #[.string ⟨(Lib.decDigits (uF 0 (dz xs)).toNat).toArray⟩, .bool true]) ∧ Below w.heap.size w w' := by
  have hn0 : ((n : Int) == 0) = false := by simp; omega
  have hU : uF 0 (dz xs) < 18446744073709551616 := by
    have h1 := (uF_bound (dz xs) (dz_byte h.byte)).2
    have h2 : (256 : Int) ^ (dz xs).length ≤ 256 ^ 8 := pow256 h8
    have e8 : (256 : Int) ^ 8 = 18446744073709551616 := by decide
    omega
  have HU := hide hU
  have HT := hide htab
  clear hU htab
  have H := hide h
  have H8 := hide h8
  clear h h8
  have hw1 : IntKind.i64.wrap ((n : Int) - 1) = (n : Int) - 1 := by rw [IntKind.wrap_i64]; omega
  go_enter Ybad.func6, Ybad.ntmps6
  go_wp2_with fail
  go_loop [4] (fun v => ∃ (p : Nat), p < n ∧ v = .int .i64 p ∧ Hid (dz (xs.drop p) = dz xs)) (fun v => n - (intOf v).toNat)
  case atStart => exact ⟨0, h1, rfl, rfl⟩
  case round =>
    obtain ⟨p, hpn, rfl, hI⟩ := hrel
    have hD := hI.out
    obtain ⟨x0, hx0⟩ : ∃ x, x = xs.getD p 0 := ⟨_, rfl⟩
    have g0 : w.cell? ⟨b, off + p, none⟩ = some (.int .u8 x0) := by rw [hx0]; exact H.out.cell p hpn
    have hb0 := H.out.at hpn
    rw [← hx0] at hb0
    have hl := H.out.len
    have hp0 : (0 : Int) ≤ (p : Int) := by omega
    have hp1 : (p : Int) < (n : Int) := by omega
    have hd0 : (xs.drop p).getD 0 0 = x0 := by rw [getD_at, hx0]; rfl
    by_cases hgo : p + 1 < n ∧ x0 = 0
    · have hm1 : (p : Int) < (n : Int) - 1 := by omega
      have hxz : (x0 == 0) = true := by simp [hgo.2]
      have hnew : dz (xs.drop (p + 1)) = dz xs := by
        rw [← hD, ← dz_step (xs := xs.drop p) (by simp; omega) (by rw [hd0]; exact hgo.2), List.drop_drop]
      have HN := hide hnew
      have hm2 := hgo.1
      clear hD hx0 hl hnew hgo hd0
      go_wp2_with fail
      go_round
      case rel => exact ⟨p + 1, by omega, by go_num, HN⟩
      case measure => simp [intOf]; omega
    · have hstop : dz (xs.drop p) = xs.drop p := dz_stop (by rw [hd0]; simp; omega)
      have hfin : dz xs = xs.drop p := by rw [← hD, hstop]
      have h8 := H8.out
      rw [hfin, List.length_drop, ← hl] at h8
      have HD := hide hfin
      have enter2 : ¬ (p : Int) < (n : Int) - 1 ∨ (p : Int) < (n : Int) - 1 ∧ (x0 == 0) = false := by
        by_cases hh : p + 1 < n
        · right
          exact ⟨by omega, by simp; omega⟩
        · left; omega
      have hw2 : IntKind.i64.wrap ((n : Int) - (p : Int)) = (n : Int) - (p : Int) := by rw [IntKind.wrap_i64]; omega
      clear hD hl hstop hfin hI hx0 hgo hd0
      have h8' : ¬ (8 : Int) < (n : Int) - (p : Int) := by omega
      rcases enter2 with hm1 | ⟨hm1, hxz⟩
      · go_wp2_with fail
        go_loop [5, 6] (fun u i => ∃ (j : Nat) (a : Int), p ≤ j ∧ j ≤ n ∧ i = .int .i64 j ∧ u = .int .u64 a ∧ Hid (uF 0 (dz xs) = uF a (xs.drop j) ∧ 0 ≤ a ∧ a < 256 ^ (j - p))) (fun _ i => n - (intOf i).toNat)
        case atStart => exact ⟨p, 0, Nat.le_refl _, by omega, rfl, rfl, by rw [HD.out], by omega, by rw [Nat.sub_self]; decide⟩
        case round =>
          obtain ⟨j, a, hpj, hjn, rfl, rfl, hJ⟩ := hrel
          by_cases hlt : j < n
          · obtain ⟨e1, e2, e3⟩ := hJ.out
            obtain ⟨x, hx⟩ : ∃ x, x = xs.getD j 0 := ⟨_, rfl⟩
            have hbx := H.out.at hlt
            rw [← hx] at hbx
            have g1 : w.cell? ⟨b, off + j, none⟩ = some (.int .u8 x) := by rw [hx]; exact H.out.cell j hlt
            have hj : (j : Int) < (n : Int) := by omega
            have hj0 : (0 : Int) ≤ (j : Int) := by omega
            have hp : (256 : Int) ^ (j - p) ≤ 256 ^ 7 := pow256 (by omega)
            have e7 : (256 : Int) ^ 7 = 72057594037927936 := by decide
            rw [e7] at hp
            have hor := or8_u64 a x hbx.1 hbx.2 e2 (by omega)
            have hnew : uF 0 (dz xs) = uF (a * 256 + x) (xs.drop (j + 1)) ∧ 0 ≤ a * 256 + x ∧ a * 256 + x < 256 ^ (j + 1 - p) := by
              refine ⟨?_, ?_, ?_⟩
              · rw [e1, hx, uF_step _ _ _ (by rw [← H.out.len]; exact hlt)]
              · omega
              · rw [show j + 1 - p = (j - p) + 1 by omega, Int.pow_succ]; omega
            have HN := hide hnew
            clear e1 e2 e3 hp hnew hx
            go_wp2_with fail
            go_round
            case rel => exact ⟨j + 1, a * 256 + x, by omega, by omega, by go_num, rfl, HN⟩
            case measure => simp [intOf]; omega
          · obtain rfl : n = j := by omega
            have hfin : uF 0 (dz xs) = a := by rw [hJ.out.1, uF_nil _ _ _ (by rw [← H.out.len]; omega)]
            have hU := HU.out
            obtain ⟨U, hUU⟩ : ∃ U : Nat, (U : Int) = a := ⟨a.toNat, by have := hJ.out.2.1; omega⟩
            subst hUU
            have HFM : Hid (Calls Ybad.prog 12 #[.int .u64 U, .int .i64 10] w fun e w' => e = .returned (.string ⟨(Lib.decDigits U).toArray⟩) ∧ Below w.heap.size w w') := fmtU U (by rw [hfin] at hU; omega) w HT.out
            have hnum : (uF 0 (dz xs)).toNat = U := by rw [hfin]; simp
            have HF := hide hnum
            clear hfin hU hnum
            go_wp2_with (go_at_call 12; refine HFM.out.mono ?_; rintro e w' ⟨rfl, hb'⟩; have HBW := hide hb'; clear hb')
            go_ret2
            exact ⟨by rw [HF.out]; rfl, HBW.out⟩
      · go_wp2_with fail
        go_loop [5, 6] (fun u i => ∃ (j : Nat) (a : Int), p ≤ j ∧ j ≤ n ∧ i = .int .i64 j ∧ u = .int .u64 a ∧ Hid (uF 0 (dz xs) = uF a (xs.drop j) ∧ 0 ≤ a ∧ a < 256 ^ (j - p))) (fun _ i => n - (intOf i).toNat)
        case atStart => exact ⟨p, 0, Nat.le_refl _, by omega, rfl, rfl, by rw [HD.out], by omega, by rw [Nat.sub_self]; decide⟩
        case round =>
          obtain ⟨j, a, hpj, hjn, rfl, rfl, hJ⟩ := hrel
          by_cases hlt : j < n
          · obtain ⟨e1, e2, e3⟩ := hJ.out
            obtain ⟨x, hx⟩ : ∃ x, x = xs.getD j 0 := ⟨_, rfl⟩
            have hbx := H.out.at hlt
            rw [← hx] at hbx
            have g1 : w.cell? ⟨b, off + j, none⟩ = some (.int .u8 x) := by rw [hx]; exact H.out.cell j hlt
            have hj : (j : Int) < (n : Int) := by omega
            have hj0 : (0 : Int) ≤ (j : Int) := by omega
            have hp : (256 : Int) ^ (j - p) ≤ 256 ^ 7 := pow256 (by omega)
            have e7 : (256 : Int) ^ 7 = 72057594037927936 := by decide
            rw [e7] at hp
            have hor := or8_u64 a x hbx.1 hbx.2 e2 (by omega)
            have hnew : uF 0 (dz xs) = uF (a * 256 + x) (xs.drop (j + 1)) ∧ 0 ≤ a * 256 + x ∧ a * 256 + x < 256 ^ (j + 1 - p) := by
              refine ⟨?_, ?_, ?_⟩
              · rw [e1, hx, uF_step _ _ _ (by rw [← H.out.len]; exact hlt)]
              · omega
              · rw [show j + 1 - p = (j - p) + 1 by omega, Int.pow_succ]; omega
            have HN := hide hnew
            clear e1 e2 e3 hp hnew hx
            go_wp2_with fail
            go_round
            case rel => exact ⟨j + 1, a * 256 + x, by omega, by omega, by go_num, rfl, HN⟩
            case measure => simp [intOf]; omega
          · obtain rfl : n = j := by omega
            have hfin : uF 0 (dz xs) = a := by rw [hJ.out.1, uF_nil _ _ _ (by rw [← H.out.len]; omega)]
            have hU := HU.out
            obtain ⟨U, hUU⟩ : ∃ U : Nat, (U : Int) = a := ⟨a.toNat, by have := hJ.out.2.1; omega⟩
            subst hUU
            have HFM : Hid (Calls Ybad.prog 12 #[.int .u64 U, .int .i64 10] w fun e w' => e = .returned (.string ⟨(Lib.decDigits U).toArray⟩) ∧ Below w.heap.size w w') := fmtU U (by rw [hfin] at hU; omega) w HT.out
            have hnum : (uF 0 (dz xs)).toNat = U := by rw [hfin]; simp
            have HF := hide hnum
            clear hfin hU hnum
            go_wp2_with (go_at_call 12; refine HFM.out.mono ?_; rintro e w' ⟨rfl, hb'⟩; have HBW := hide hb'; clear hb')
            go_ret2
            exact ⟨by rw [HF.out]; rfl, HBW.out⟩

set_option maxHeartbeats 1600000 in
/-- snmp.zzs5810buint -/
theorem zuint_no (b off n c : Nat) (xs : List Int) (w : World) (h : Bytes w b off n xs) (hc : n ≤ c) (h1 : 0 < n) (hn : n ≤ 1048576) (h8 : 8 < (dz xs).length) :
    Calls Ybad.prog 6 #[.slice (some ⟨b, off, none⟩) n c] w fun e w' => e = .returned (.tuple #[.string ⟨(Lib.decDigits 0).toArray⟩, .bool false]) ∧ w' = w := by
  have hn0 : ((n : Int) == 0) = false := by simp; omega
  have H := hide h
  have H8 := hide h8
  clear h h8
  have hw1 : IntKind.i64.wrap ((n : Int) - 1) = (n : Int) - 1 := by rw [IntKind.wrap_i64]; omega
  go_enter Ybad.func6, Ybad.ntmps6
  go_wp2_with fail
  go_loop [4] (fun v => ∃ (p : Nat), p < n ∧ v = .int .i64 p ∧ Hid (dz (xs.drop p) = dz xs)) (fun v => n - (intOf v).toNat)
  case atStart => exact ⟨0, h1, rfl, rfl⟩
  case round =>
    obtain ⟨p, hpn, rfl, hI⟩ := hrel
    have hD := hI.out
    obtain ⟨x0, hx0⟩ : ∃ x, x = xs.getD p 0 := ⟨_, rfl⟩
    have g0 : w.cell? ⟨b, off + p, none⟩ = some (.int .u8 x0) := by rw [hx0]; exact H.out.cell p hpn
    have hb0 := H.out.at hpn
    rw [← hx0] at hb0
    have hl := H.out.len
    have hp0 : (0 : Int) ≤ (p : Int) := by omega
    have hp1 : (p : Int) < (n : Int) := by omega
    have hd0 : (xs.drop p).getD 0 0 = x0 := by rw [getD_at, hx0]; rfl
    by_cases hgo : p + 1 < n ∧ x0 = 0
    · have hm1 : (p : Int) < (n : Int) - 1 := by omega
      have hxz : (x0 == 0) = true := by simp [hgo.2]
      have hnew : dz (xs.drop (p + 1)) = dz xs := by
        rw [← hD, ← dz_step (xs := xs.drop p) (by simp; omega) (by rw [hd0]; exact hgo.2), List.drop_drop]
      have HN := hide hnew
      have hm2 := hgo.1
      clear hD hx0 hl hnew hgo hd0
      go_wp2_with fail
      go_round
      case rel => exact ⟨p + 1, by omega, by go_num, HN⟩
      case measure => simp [intOf]; omega
    · have hstop : dz (xs.drop p) = xs.drop p := dz_stop (by rw [hd0]; simp; omega)
      have hfin : dz xs = xs.drop p := by rw [← hD, hstop]
      have h8 := H8.out
      rw [hfin, List.length_drop, ← hl] at h8
      have HD := hide hfin
      have enter2 : ¬ (p : Int) < (n : Int) - 1 ∨ (p : Int) < (n : Int) - 1 ∧ (x0 == 0) = false := by
        by_cases hh : p + 1 < n
        · right
          exact ⟨by omega, by simp; omega⟩
        · left; omega
      have hw2 : IntKind.i64.wrap ((n : Int) - (p : Int)) = (n : Int) - (p : Int) := by rw [IntKind.wrap_i64]; omega
      clear hD hl hstop hfin hI hx0 hgo hd0
      have h8' : (8 : Int) < (n : Int) - (p : Int) := by omega
      rcases enter2 with hm1 | ⟨hm1, hxz⟩
      · omega
      · go_wp2_with fail
        go_ret2
        exact ⟨by kernel_rfl, rfl⟩
end Go.Proofs.YbulkdphmDoor
