/-
  snmp.parseInt.
-/
import Derived.Test.YbulkdphmDoorRows
import Derived.WalkKit
import Derived.ProofKit
import Derived.OpenShut
import Derived.WalkLawsBesides
import Derived.BigQuiet
import Derived.Laws.BitsAllLaws
import Derived.Laws.StructEq
import Derived.Outline
import Derived.Test.YbulkdphmDoorBytes
namespace Go.Proofs.YbulkdphmDoor
open Go.ChangeShapes Go.WideShapes Go.ChangeAt Go.RowKit
open Go.ChangeMaps (setBlock)
set_option linter.unusedVariables false

theorem sI_bound {xs : List Int} (hb : ∀ x ∈ xs, 0 ≤ x ∧ x < 256) (h8 : xs.length ≤ 8) : -9223372036854775808 ≤ sI xs ∧ sI xs ≤ 9223372036854775807 := by
  cases xs with
  | nil => unfold sI; simp
  | cons x xs =>
    have hx := hb x (by simp)
    have hs : -128 ≤ s8 x ∧ s8 x ≤ 127 := by unfold s8; split <;> omega
    have hu := uF_bound xs (fun y hy => hb y (by simp [hy]))
    have hl : xs.length ≤ 7 := by simpa using h8
    have hp : (256 : Int) ^ xs.length ≤ 256 ^ 7 := pow256 hl
    have hp0 : (0 : Int) < 256 ^ xs.length := Int.pow_pos (by decide)
    show -9223372036854775808 ≤ uF (s8 x) xs ∧ uF (s8 x) xs ≤ 9223372036854775807
    rw [uF_lin]
    have e7 : (256 : Int) ^ 7 = 72057594037927936 := by decide
    rw [e7] at hp
    generalize (256 : Int) ^ xs.length = Q at *
    generalize s8 x = s at *
    generalize uF 0 xs = U at *
    have h1 : -128 * Q ≤ s * Q := Int.mul_le_mul_of_nonneg_right hs.1 (by omega)
    have h2 : s * Q ≤ 127 * Q := Int.mul_le_mul_of_nonneg_right hs.2 (by omega)
    omega

theorem parseInt_no (p : Option Addr) (n c : Nat) (w : World) (h : n = 0 ∨ 8 < n) (hn : n ≤ 1048576) : Calls Ybad.prog 21 #[.slice p n c] w fun e w' => e = .returned (.tuple #[.int .i64 0, .bool false]) ∧ w' = w := by
  by_cases h0 : n = 0
  · subst h0
    go_enter Ybad.func21, Ybad.ntmps21
    go_wp2_with fail
    go_ret2
    exact ⟨rfl, rfl⟩
  · have hn0 : ((n : Int) == 0) = false := by simp; omega
    have hn8 : (8 : Int) < (n : Int) := by omega
    clear h
    go_enter Ybad.func21, Ybad.ntmps21
    go_wp2_with fail
    go_ret2
    exact ⟨rfl, rfl⟩

set_option maxHeartbeats 800000 in
/-- snmp.parseInt, one to eight bytes. -/
theorem parseInt_ok (b off n c : Nat) (xs : List Int) (w : World) (h : Bytes w b off n xs) (hc : n ≤ c) (h1 : 0 < n) (h2 : n ≤ 8) :
    Calls Ybad.prog 21 #[.slice (some ⟨b, off, none⟩) n c] w fun e w' => e = .returned (.tuple #[.int .i64 (sI xs), .bool true]) ∧ w' = w := by
  obtain ⟨x0, hx0⟩ : ∃ x, x = xs.getD 0 0 := ⟨_, rfl⟩
  have g0 : w.cell? ⟨b, off, none⟩ = some (.int .u8 x0) := by rw [hx0]; exact h.cell 0 (by omega)
  obtain ⟨s0, hs0⟩ : ∃ s, s = s8 x0 := ⟨_, rfl⟩
  have hb0 := h.at (i := 0) (by omega)
  rw [← hx0] at hb0
  have hs1 : -128 ≤ s0 ∧ s0 ≤ 127 := by rw [hs0]; unfold s8; split <;> omega
  have hw0 : IntKind.i8.wrap x0 = s0 := by rw [hs0]; exact wrap_s8 x0 hb0
  have hws : wrap64 s0 = s0 := by unfold wrap64; omega
  have hn0 : ((n : Int) == 0) = false := by simp; omega
  have hn8 : ¬ (8 : Int) < (n : Int) := by omega
  have hn1 : (1 : Int) ≤ (n : Int) := by omega
  obtain ⟨o1, ho1⟩ : ∃ o, o = offAt c 1 off := ⟨_, rfl⟩
  have hsl : ∀ W, (Instr.sliceAt 22 (.slice (some ⟨b, off, none⟩) n c) (some (.int .i64 1)) none none).run Ybad.prog W = .ok (.slice (some ⟨b, o1, none⟩) (n - 1) (c - 1)) W := fun W => by rw [ho1]; exact cut_lo b off n c 1 .i64 h1 W
  have hsub := h.sub 1 n c h1 (Nat.le_refl _) hc
  rw [← ho1, show xs.take n = xs by rw [h.len]; exact List.take_length] at hsub
  have hl := h.len
  have hsum : sI xs = uF s0 (xs.drop 1) := by
    cases xs with
    | nil => simp at hl; omega
    | cons x xs => rw [hs0, hx0]; rfl
  have H := hide hsub
  have HS := hide hsum
  have HL := hide hl
  clear h hx0 hs0 hsub hsum hl ho1
  go_enter Ybad.func21, Ybad.ntmps21
  go_wp2_with fail
  clear hsl hw0 hws g0
  go_loop [4, 23] (fun u i => ∃ (j : Nat) (a : Int), j ≤ n - 1 ∧ i = .int .i64 j ∧ u = .int .i64 a ∧ Hid (sI xs = uF a ((xs.drop 1).drop j) ∧ -128 * 256 ^ j ≤ a ∧ a < 128 * 256 ^ j)) (fun _ i => n - (intOf i).toNat)
  case atStart => exact ⟨0, s0, by omega, rfl, rfl, HS.out, by omega, by omega⟩
  case round =>
    obtain ⟨j, a, hjn, rfl, rfl, hI⟩ := hrel
    by_cases hlt : j < n - 1
    · obtain ⟨e1, e2, e3⟩ := hI.out
      obtain ⟨x, hx⟩ : ∃ x, x = (xs.drop 1).getD j 0 := ⟨_, rfl⟩
      have hbx := H.out.at hlt
      rw [← hx] at hbx
      have g1 : w.cell? ⟨b, o1 + j, none⟩ = some (.int .u8 x) := by rw [hx]; exact H.out.cell j hlt
      have hj : (j : Int) < ((n - 1 : Nat) : Int) := by omega
      have hj0 : (0 : Int) ≤ (j : Int) := by omega
      have hp : (256 : Int) ^ j ≤ 256 ^ 6 := pow256 (by omega)
      have e6 : (256 : Int) ^ 6 = 281474976710656 := by decide
      rw [e6] at hp
      have hor := or8_i64 a x hbx.1 hbx.2 (by omega) (by omega)
      have hnew : sI xs = uF (a * 256 + x) ((xs.drop 1).drop (j + 1)) ∧ -128 * 256 ^ (j + 1) ≤ a * 256 + x ∧ a * 256 + x < 128 * 256 ^ (j + 1) := by
        refine ⟨?_, ?_, ?_⟩
        · rw [e1, hx, uF_step _ _ _ (by rw [← H.out.len]; exact hlt)]
        · rw [Int.pow_succ]; omega
        · rw [Int.pow_succ]; omega
      have HN := hide hnew
      clear e1 e2 e3 hp hnew hx
      go_wp2_with fail
      go_round
      case rel => exact ⟨j + 1, a * 256 + x, by omega, by go_num, rfl, HN⟩
      case measure => simp [intOf]; omega
    · have hj : ¬ (j : Int) < ((n - 1 : Nat) : Int) := by omega
      have hfin : sI xs = a := by rw [hI.out.1, uF_nil _ _ _ (by rw [← H.out.len]; omega)]
      have HF := hide hfin
      clear hfin
      go_wp2_with fail
      go_ret2
      exact ⟨by rw [HF.out]; rfl, rfl⟩
end Go.Proofs.YbulkdphmDoor
