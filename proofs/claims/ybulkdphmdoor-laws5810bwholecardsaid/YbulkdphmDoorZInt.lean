/-
  snmp.zzs5810bint.
-/
import Derived.Test.YbulkdphmDoorRows
import Derived.WalkKit
import Derived.ProofKit
import Derived.OpenShut
import Derived.WalkLawsBesides
import Derived.BigQuiet
import Derived.Laws.BitsAllLaws
import Derived.Laws.StructEq
import Derived.Outline
import Derived.Test.YbulkdphmDoorPInt
import Derived.Test.YbulkdphmDoorNum
namespace Go.Proofs.YbulkdphmDoor
open Go.ChangeShapes Go.WideShapes Go.ChangeAt Go.RowKit
open Go.ChangeMaps (setBlock)
set_option linter.unusedVariables false

theorem sI_U {xs : List Int} (h : 0 < xs.length) : sI xs = uF 0 xs - (if xs.getD 0 0 < 128 then 0 else 256 ^ xs.length) := by
  cases xs with
  | nil => simp at h
  | cons x ys =>
    show uF (s8 x) ys = uF (0 * 256 + x) ys - _
    rw [uF_lin (s8 x), uF_lin (0 * 256 + x), List.length_cons, Int.pow_succ]
    show _ = _ - (if x < 128 then _ else _)
    generalize (256 : Int) ^ ys.length = Q
    generalize uF 0 ys = V
    unfold s8
    split
    · simp
    · rw [Int.sub_mul, Int.zero_mul, Int.zero_add]
      omega

theorem top_or (n : Nat) (a : Int) (h1 : 0 < n) (h7 : n < 8) (h0 : 0 ≤ a) (ha : a < 256 ^ n) : bits .or .u64 a (IntKind.u64.wrap (18446744073709551615 * 2 ^ (8 * n))) = a + (18446744073709551616 - 256 ^ n) := by
  obtain ⟨A, rfl⟩ := Int.eq_ofNat_of_zero_le h0
  have key : ∀ (i : Nat) (M : Nat), M % 2 ^ i = 0 → A < 2 ^ i → M < 18446744073709551616 → A < 18446744073709551616 → bits .or .u64 (A : Int) (M : Int) = (A : Int) + (M : Int) := by
    intro i M hM hA h1 h2
    rw [u64_or_nat A M h2 h1, Nat.or_comm, nat_join i M A hM hA]
    omega
  have hn : n = 1 ∨ n = 2 ∨ n = 3 ∨ n = 4 ∨ n = 5 ∨ n = 6 ∨ n = 7 := by omega
  rcases hn with rfl | rfl | rfl | rfl | rfl | rfl | rfl
  · exact key 8 18446744073709551360 (by decide) (by omega) (by decide) (by omega)
  · exact key 16 18446744073709486080 (by decide) (by omega) (by decide) (by omega)
  · exact key 24 18446744073692774400 (by decide) (by omega) (by decide) (by omega)
  · exact key 32 18446744069414584320 (by decide) (by omega) (by decide) (by omega)
  · exact key 40 18446742974197923840 (by decide) (by omega) (by decide) (by omega)
  · exact key 48 18446462598732840960 (by decide) (by omega) (by decide) (by omega)
  · exact key 56 18374686479671623680 (by decide) (by omega) (by decide) (by omega)

theorem zint_no (p : Option Addr) (n c : Nat) (w : World) (h : n = 0 ∨ 8 < n) (hn : n ≤ 1048576) : Calls Ybad.prog 5 #[.slice p n c] w fun e w' => e = .returned (.tuple #[.string ⟨(Lib.itoa 0).toArray⟩, .bool false]) ∧ w' = w := by
  by_cases h0 : n = 0
  · subst h0
    go_enter Ybad.func5, Ybad.ntmps5
    go_wp2_with fail
    go_ret2
    exact ⟨by kernel_rfl, rfl⟩
  · have hn0 : ((n : Int) == 0) = false := by simp; omega
    have hn8 : (8 : Int) < (n : Int) := by omega
    clear h
    go_enter Ybad.func5, Ybad.ntmps5
    go_wp2_with fail
    go_ret2
    exact ⟨by kernel_rfl, rfl⟩

set_option maxHeartbeats 800000 in
/-- snmp.zzs5810bint, one to eight bytes. -/
theorem zint_ok (b off n c : Nat) (xs : List Int) (w : World) (h : Bytes w b off n xs) (hc : n ≤ c) (h1 : 0 < n) (h2 : n ≤ 8) (htab : Tab w) :
    Calls Ybad.prog 5 #[.slice (some ⟨b, off, none⟩) n c] w fun e w' => e = .returned (.tuple #[.string ⟨(Lib.itoa (sI xs)).toArray⟩, .bool true]) ∧ Below w.heap.size w w' := by
  obtain ⟨x0, hx0⟩ : ∃ x, x = xs.getD 0 0 := ⟨_, rfl⟩
  have g0 : w.cell? ⟨b, off, none⟩ = some (.int .u8 x0) := by rw [hx0]; exact h.cell 0 (by omega)
  have hb0 := h.at (i := 0) (by omega)
  rw [← hx0] at hb0
  have hn0 : ((n : Int) == 0) = false := by simp; omega
  have hn8 : ¬ (8 : Int) < (n : Int) := by omega
  have hn1 : (0 : Int) < (n : Int) := by omega
  have hl := h.len
  have hU := sI_U (xs := xs) (by omega)
  rw [← hx0, ← hl] at hU
  have hB := sI_bound h.byte (by omega)
  have HFM : Hid (Calls Ybad.prog 11 #[.int .i64 (sI xs), .int .i64 10] w fun e w' => e = .returned (.string ⟨(Lib.itoa (sI xs)).toArray⟩) ∧ Below w.heap.size w w') := fmtI (sI xs) hB.1 hB.2 w htab
  have H := hide h
  have HU := hide hU
  have HB := hide hB
  have HL := hide hl
  clear h hx0 hU hB hl htab
  go_enter Ybad.func5, Ybad.ntmps5
  go_wp2_with fail
  go_loop [4, 17] (fun u i => ∃ (j : Nat) (a : Int), j ≤ n ∧ i = .int .i64 j ∧ u = .int .u64 a ∧ Hid (uF 0 xs = uF a (xs.drop j) ∧ 0 ≤ a ∧ a < 256 ^ j)) (fun _ i => n - (intOf i).toNat)
  case atStart => exact ⟨0, 0, by omega, rfl, rfl, rfl, by omega, by omega⟩
  case round =>
    obtain ⟨j, a, hjn, rfl, rfl, hI⟩ := hrel
    by_cases hlt : j < n
    · obtain ⟨e1, e2, e3⟩ := hI.out
      obtain ⟨x, hx⟩ : ∃ x, x = xs.getD j 0 := ⟨_, rfl⟩
      have hbx := H.out.at hlt
      rw [← hx] at hbx
      have g1 : w.cell? ⟨b, off + j, none⟩ = some (.int .u8 x) := by rw [hx]; exact H.out.cell j hlt
      have hj : (j : Int) < (n : Int) := by omega
      have hj0 : (0 : Int) ≤ (j : Int) := by omega
      have hp : (256 : Int) ^ j ≤ 256 ^ 7 := pow256 (by omega)
      have e7 : (256 : Int) ^ 7 = 72057594037927936 := by decide
      rw [e7] at hp
      have hor := or8_u64 a x hbx.1 hbx.2 e2 (by omega)
      have hnew : uF 0 xs = uF (a * 256 + x) (xs.drop (j + 1)) ∧ 0 ≤ a * 256 + x ∧ a * 256 + x < 256 ^ (j + 1) := by
        refine ⟨?_, ?_, ?_⟩
        · rw [e1, hx, uF_step _ _ _ (by rw [← H.out.len]; exact hlt)]
        · omega
        · rw [Int.pow_succ]; omega
      have HN := hide hnew
      clear e1 e2 e3 hp hnew hx
      go_wp2_with fail
      go_round
      case rel => exact ⟨j + 1, a * 256 + x, by omega, by go_num, rfl, HN⟩
      case measure => simp [intOf]; omega
    · obtain rfl : n = j := by omega
      obtain ⟨e1, e2, e3⟩ := hI.out
      rw [uF_nil _ _ _ (by rw [← H.out.len]; omega)] at e1
      have hu := HU.out
      rw [e1] at hu
      have hb := HB.out
      by_cases hx : x0 < 128
      · rw [if_pos hx] at hu
        have hw : wrap64 a = sI xs := by unfold wrap64; omega
        have hx' : ¬ (128 : Int) ≤ x0 := by omega
        clear e1 e2 e3 hu hb
        go_wp2_with (go_at_call 11; refine HFM.out.mono ?_; rintro e w' ⟨rfl, hb'⟩; have HBW := hide hb'; clear hb')
        go_ret2
        exact ⟨rfl, HBW.out⟩
      · rw [if_neg hx] at hu
        have hx' : (128 : Int) ≤ x0 := by omega
        by_cases h7 : n < 8
        · have ho := top_or n a h1 h7 e2 e3
          have hw : wrap64 (a + (18446744073709551616 - 256 ^ n)) = sI xs := by unfold wrap64; omega
          rw [← ho] at hw
          have hn7 : (n : Int) < 8 := by omega
          clear e1 e2 e3 hu hb ho
          go_wp2_with (go_at_call 11; refine HFM.out.mono ?_; rintro e w' ⟨rfl, hb'⟩; have HBW := hide hb'; clear hb')
          go_ret2
          exact ⟨rfl, HBW.out⟩
        · have h8 : n = 8 := by omega
          have hw : wrap64 a = sI xs := by
            rw [h8, show (256 : Int) ^ 8 = 18446744073709551616 by decide] at hu
            unfold wrap64
            omega
          have hn7 : ¬ (n : Int) < 8 := by omega
          clear e1 e2 e3 hu hb h8
          go_wp2_with (go_at_call 11; refine HFM.out.mono ?_; rintro e w' ⟨rfl, hb'⟩; have HBW := hide hb'; clear hb')
          go_ret2
          exact ⟨rfl, HBW.out⟩
end Go.Proofs.YbulkdphmDoor
