/-
  snmp.parseUint.
-/
import Derived.Test.YbulkdphmDoorRows
import Derived.WalkKit
import Derived.ProofKit
import Derived.OpenShut
import Derived.WalkLawsBesides
import Derived.BigQuiet
import Derived.Laws.BitsAllLaws
import Derived.Laws.StructEq
import Derived.Outline
import Derived.Test.YbulkdphmDoorPInt
import Derived.Test.YbulkdphmDoorNum
namespace Go.Proofs.YbulkdphmDoor
open Go.ChangeShapes Go.WideShapes Go.ChangeAt Go.RowKit
open Go.ChangeMaps (setBlock)
set_option linter.unusedVariables false

/-- Without its leading zeros (one byte stays). -/
def dz : List Int → List Int
  | [] => []
  | [x] => [x]
  | x :: y :: ys => if x = 0 then dz (y :: ys) else x :: y :: ys
def lenV : Value → Nat
  | .slice _ n _ => n
  | _ => 0
theorem dz_step {xs : List Int} (h : 1 < xs.length) (h0 : xs.getD 0 0 = 0) : dz (xs.drop 1) = dz xs := by
  match xs, h with
  | x :: y :: ys, _ =>
    have : x = 0 := h0
    show dz (y :: ys) = if x = 0 then dz (y :: ys) else x :: y :: ys
    rw [if_pos this]
theorem dz_stop {xs : List Int} (h : xs.length ≤ 1 ∨ xs.getD 0 0 ≠ 0) : dz xs = xs := by
  match xs with
  | [] => rfl
  | [x] => rfl
  | x :: y :: ys =>
    have : ¬ x = 0 := by
      rcases h with h | h
      · simp at h
      · exact h
    show (if x = 0 then dz (y :: ys) else x :: y :: ys) = _
    rw [if_neg this]
theorem getD_at (xs : List Int) (i j : Nat) : (xs.drop i).getD j 0 = xs.getD (i + j) 0 := by simp [List.getD]

theorem puint_nil (p : Option Addr) (c : Nat) (w : World) : Calls Ybad.prog 22 #[.slice p 0 c] w fun e w' => e = .returned (.tuple #[.int .u64 0, .bool false]) ∧ w' = w := by
  go_enter Ybad.func22, Ybad.ntmps22
  go_wp2_with fail
  go_ret2
  exact ⟨rfl, rfl⟩


set_option maxHeartbeats 1600000 in
/-- snmp.parseUint -/
theorem puint_ok (b off n c : Nat) (xs : List Int) (w : World) (h : Bytes w b off n xs) (hc : n ≤ c) (h1 : 0 < n) (hn : n ≤ 1048576) (h8 : (dz xs).length ≤ 8) :
    Calls Ybad.prog 22 #[.slice (some ⟨b, off, none⟩) n c] w fun e w' => e = .returned (.tuple #[.int .u64 (uF 0 (dz xs)), .bool true]) ∧ w' = w := by
  have hn0 : ((n : Int) == 0) = false := by simp; omega
  have H := hide h
  have H8 := hide h8
  clear h h8
  go_enter Ybad.func22, Ybad.ntmps22
  go_wp2_with fail
  go_loop [0] (fun v => ∃ (o m c' : Nat) (ys : List Int), v = .slice (some ⟨b, o, none⟩) m c' ∧ m ≤ c' ∧ 0 < m ∧ m ≤ n ∧ Hid (Bytes w b o m ys ∧ dz ys = dz xs)) (fun v => lenV v)
  case atStart => exact ⟨off, n, c, xs, rfl, hc, h1, Nat.le_refl _, H.out, rfl⟩
  case round =>
    obtain ⟨o, m, c', ys, rfl, hmc, hm0, hmn, hI⟩ := hrel
    obtain ⟨hB, hD⟩ := hI.out
    obtain ⟨x0, hx0⟩ : ∃ x, x = ys.getD 0 0 := ⟨_, rfl⟩
    have g0 : w.cell? ⟨b, o, none⟩ = some (.int .u8 x0) := by rw [hx0]; exact hB.cell 0 hm0
    have hb0 := hB.at (i := 0) hm0
    rw [← hx0] at hb0
    have hl := hB.len
    have hm0' : (0 : Int) < (m : Int) := by omega
    by_cases hgo : 1 < m ∧ x0 = 0
    · have hm1 : (1 : Int) < (m : Int) := by omega
      have hxz : (x0 == 0) = true := by simp [hgo.2]
      obtain ⟨o1, ho1⟩ : ∃ o', o' = offAt c' 1 o := ⟨_, rfl⟩
      have hsl : ∀ W, (Instr.sliceAt 22 (.slice (some ⟨b, o, none⟩) m c') (some (.int .i64 1)) none none).run Ybad.prog W = .ok (.slice (some ⟨b, o1, none⟩) (m - 1) (c' - 1)) W := fun W => by rw [ho1]; exact cut_lo b o m c' 1 .i64 hm0 W
      have hsub := hB.sub 1 m c' hm0 (Nat.le_refl _) hmc
      rw [← ho1, show ys.take m = ys by rw [hB.len]; exact List.take_length] at hsub
      have hnew : Bytes w b o1 (m - 1) (ys.drop 1) ∧ dz (ys.drop 1) = dz xs := ⟨hsub, (dz_step (by omega) (by rw [← hx0]; exact hgo.2)).trans hD⟩
      have HN := hide hnew
      have hm2 := hgo.1
      clear hB hD hx0 hl hsub hnew ho1 hgo
      go_wp2_with fail
      go_round
      case rel => exact ⟨o1, m - 1, c' - 1, ys.drop 1, rfl, by omega, by omega, by omega, HN⟩
      case measure => show m - 1 < m; omega
    · have hstop : dz ys = ys := dz_stop (by rw [← hl, ← hx0]; omega)
      have hfin : dz xs = ys := by rw [← hD, hstop]
      have h8 := H8.out
      rw [hfin, ← hl] at h8
      have HB := hide hB
      have HL := hide hl
      have HD := hide hfin
      have enter2 : ¬ (1 : Int) < (m : Int) ∨ (1 : Int) < (m : Int) ∧ (x0 == 0) = false := by
        by_cases hh : 1 < m
        · right
          exact ⟨by omega, by simp; omega⟩
        · left; omega
      clear hB hD hl hstop hfin hI hx0 hgo
      have h8' : ¬ (8 : Int) < (m : Int) := by omega
      rcases enter2 with hm1 | ⟨hm1, hxz⟩
      · go_wp2_with fail
        go_loop [4, 26] (fun u i => ∃ (j : Nat) (a : Int), j ≤ m ∧ i = .int .i64 j ∧ u = .int .u64 a ∧ Hid (uF 0 ys = uF a (ys.drop j) ∧ 0 ≤ a ∧ a < 256 ^ j)) (fun _ i => m - (intOf i).toNat)
        case atStart => exact ⟨0, 0, by omega, rfl, rfl, rfl, by omega, by omega⟩
        case round =>
          obtain ⟨j, a, hjn, rfl, rfl, hJ⟩ := hrel
          by_cases hlt : j < m
          · obtain ⟨e1, e2, e3⟩ := hJ.out
            obtain ⟨x, hx⟩ : ∃ x, x = ys.getD j 0 := ⟨_, rfl⟩
            have hbx := HB.out.at hlt
            rw [← hx] at hbx
            have g1 : w.cell? ⟨b, o + j, none⟩ = some (.int .u8 x) := by rw [hx]; exact HB.out.cell j hlt
            have hj : (j : Int) < (m : Int) := by omega
            have hj0 : (0 : Int) ≤ (j : Int) := by omega
            have hp : (256 : Int) ^ j ≤ 256 ^ 7 := pow256 (by omega)
            have e7 : (256 : Int) ^ 7 = 72057594037927936 := by decide
            rw [e7] at hp
            have hor := or8_u64 a x hbx.1 hbx.2 e2 (by omega)
            have hnew : uF 0 ys = uF (a * 256 + x) (ys.drop (j + 1)) ∧ 0 ≤ a * 256 + x ∧ a * 256 + x < 256 ^ (j + 1) := by
              refine ⟨?_, ?_, ?_⟩
              · rw [e1, hx, uF_step _ _ _ (by rw [← HB.out.len]; exact hlt)]
              · omega
              · rw [Int.pow_succ]; omega
            have HN := hide hnew
            clear e1 e2 e3 hp hnew hx
            go_wp2_with fail
            go_round
            case rel => exact ⟨j + 1, a * 256 + x, by omega, by go_num, rfl, HN⟩
            case measure => simp [intOf]; omega
          · obtain rfl : m = j := by omega
            have hfin : uF 0 (dz xs) = a := by rw [HD.out, hJ.out.1, uF_nil _ _ _ (by rw [← HB.out.len]; omega)]
            have HF := hide hfin
            clear hfin
            go_wp2_with fail
            go_ret2
            exact ⟨by rw [HF.out]; rfl, rfl⟩
      · go_wp2_with fail
        go_loop [4, 26] (fun u i => ∃ (j : Nat) (a : Int), j ≤ m ∧ i = .int .i64 j ∧ u = .int .u64 a ∧ Hid (uF 0 ys = uF a (ys.drop j) ∧ 0 ≤ a ∧ a < 256 ^ j)) (fun _ i => m - (intOf i).toNat)
        case atStart => exact ⟨0, 0, by omega, rfl, rfl, rfl, by omega, by omega⟩
        case round =>
          obtain ⟨j, a, hjn, rfl, rfl, hJ⟩ := hrel
          by_cases hlt : j < m
          · obtain ⟨e1, e2, e3⟩ := hJ.out
            obtain ⟨x, hx⟩ : ∃ x, x = ys.getD j 0 := ⟨_, rfl⟩
            have hbx := HB.out.at hlt
            rw [← hx] at hbx
            have g1 : w.cell? ⟨b, o + j, none⟩ = some (.int .u8 x) := by rw [hx]; exact HB.out.cell j hlt
            have hj : (j : Int) < (m : Int) := by omega
            have hj0 : (0 : Int) ≤ (j : Int) := by omega
            have hp : (256 : Int) ^ j ≤ 256 ^ 7 := pow256 (by omega)
            have e7 : (256 : Int) ^ 7 = 72057594037927936 := by decide
            rw [e7] at hp
            have hor := or8_u64 a x hbx.1 hbx.2 e2 (by omega)
            have hnew : uF 0 ys = uF (a * 256 + x) (ys.drop (j + 1)) ∧ 0 ≤ a * 256 + x ∧ a * 256 + x < 256 ^ (j + 1) := by
              refine ⟨?_, ?_, ?_⟩
              · rw [e1, hx, uF_step _ _ _ (by rw [← HB.out.len]; exact hlt)]
              · omega
              · rw [Int.pow_succ]; omega
            have HN := hide hnew
            clear e1 e2 e3 hp hnew hx
            go_wp2_with fail
            go_round
            case rel => exact ⟨j + 1, a * 256 + x, by omega, by go_num, rfl, HN⟩
            case measure => simp [intOf]; omega
          · obtain rfl : m = j := by omega
            have hfin : uF 0 (dz xs) = a := by rw [HD.out, hJ.out.1, uF_nil _ _ _ (by rw [← HB.out.len]; omega)]
            have HF := hide hfin
            clear hfin
            go_wp2_with fail
            go_ret2
            exact ⟨by rw [HF.out]; rfl, rfl⟩

set_option maxHeartbeats 1600000 in
/-- snmp.parseUint -/
theorem puint_no (b off n c : Nat) (xs : List Int) (w : World) (h : Bytes w b off n xs) (hc : n ≤ c) (h1 : 0 < n) (hn : n ≤ 1048576) (h8 : 8 < (dz xs).length) :
    Calls Ybad.prog 22 #[.slice (some ⟨b, off, none⟩) n c] w fun e w' => e = .returned (.tuple #[.int .u64 0, .bool false]) ∧ w' = w := by
  have hn0 : ((n : Int) == 0) = false := by simp; omega
  have H := hide h
  have H8 := hide h8
  clear h h8
  go_enter Ybad.func22, Ybad.ntmps22
  go_wp2_with fail
  go_loop [0] (fun v => ∃ (o m c' : Nat) (ys : List Int), v = .slice (some ⟨b, o, none⟩) m c' ∧ m ≤ c' ∧ 0 < m ∧ m ≤ n ∧ Hid (Bytes w b o m ys ∧ dz ys = dz xs)) (fun v => lenV v)
  case atStart => exact ⟨off, n, c, xs, rfl, hc, h1, Nat.le_refl _, H.out, rfl⟩
  case round =>
    obtain ⟨o, m, c', ys, rfl, hmc, hm0, hmn, hI⟩ := hrel
    obtain ⟨hB, hD⟩ := hI.out
    obtain ⟨x0, hx0⟩ : ∃ x, x = ys.getD 0 0 := ⟨_, rfl⟩
    have g0 : w.cell? ⟨b, o, none⟩ = some (.int .u8 x0) := by rw [hx0]; exact hB.cell 0 hm0
    have hb0 := hB.at (i := 0) hm0
    rw [← hx0] at hb0
    have hl := hB.len
    have hm0' : (0 : Int) < (m : Int) := by omega
    by_cases hgo : 1 < m ∧ x0 = 0
    · have hm1 : (1 : Int) < (m : Int) := by omega
      have hxz : (x0 == 0) = true := by simp [hgo.2]
      obtain ⟨o1, ho1⟩ : ∃ o', o' = offAt c' 1 o := ⟨_, rfl⟩
      have hsl : ∀ W, (Instr.sliceAt 22 (.slice (some ⟨b, o, none⟩) m c') (some (.int .i64 1)) none none).run Ybad.prog W = .ok (.slice (some ⟨b, o1, none⟩) (m - 1) (c' - 1)) W := fun W => by rw [ho1]; exact cut_lo b o m c' 1 .i64 hm0 W
      have hsub := hB.sub 1 m c' hm0 (Nat.le_refl _) hmc
      rw [← ho1, show ys.take m = ys by rw [hB.len]; exact List.take_length] at hsub
      have hnew : Bytes w b o1 (m - 1) (ys.drop 1) ∧ dz (ys.drop 1) = dz xs := ⟨hsub, (dz_step (by omega) (by rw [← hx0]; exact hgo.2)).trans hD⟩
      have HN := hide hnew
      have hm2 := hgo.1
      clear hB hD hx0 hl hsub hnew ho1 hgo
      go_wp2_with fail
      go_round
      case rel => exact ⟨o1, m - 1, c' - 1, ys.drop 1, rfl, by omega, by omega, by omega, HN⟩
      case measure => show m - 1 < m; omega
    · have hstop : dz ys = ys := dz_stop (by rw [← hl, ← hx0]; omega)
      have hfin : dz xs = ys := by rw [← hD, hstop]
      have h8 := H8.out
      rw [hfin, ← hl] at h8
      have HB := hide hB
      have HL := hide hl
      have HD := hide hfin
      have enter2 : ¬ (1 : Int) < (m : Int) ∨ (1 : Int) < (m : Int) ∧ (x0 == 0) = false := by
        by_cases hh : 1 < m
        · right
          exact ⟨by omega, by simp; omega⟩
        · left; omega
      clear hB hD hl hstop hfin hI hx0 hgo
      have h8' : (8 : Int) < (m : Int) := by omega
      rcases enter2 with hm1 | ⟨hm1, hxz⟩
      · omega
      · go_wp2_with fail
        go_ret2
        exact ⟨rfl, rfl⟩
end Go.Proofs.YbulkdphmDoor
