/-
  snmp.zzs5810bnext.
-/
import Derived.Test.YbulkdphmDoorRows
import Derived.WalkKit
import Derived.ProofKit
import Derived.OpenShut
import Derived.WalkLawsBesides
import Derived.BigQuiet
import Derived.Laws.BitsAllLaws
import Derived.Laws.StructEq
import Derived.Outline
import Derived.Test.YbulkdphmDoorNext0
import Derived.Deep.RegionWith
import Derived.Deep.RegionHeld3
import Derived.Deep.DeepCutAuto
import Derived.Deep.DrawnRows
namespace Go.Proofs.YbulkdphmDoor
open Go.ChangeShapes Go.WideShapes Go.ChangeAt Go.RowKit
open Go.ChangeMaps (setBlock)
set_option linter.unusedVariables false

theorem results_tmp4 {fn : Func} {t u v x : Tmp} (h : fn.results = #[.tmp t, .tmp u, .tmp v, .tmp x]) (tmps : Array Value) (P : Program) (w : World) :
    (results fn tmps).run P w = .ok (.tuple #[tmps.getD t undef, tmps.getD u undef, tmps.getD v undef, tmps.getD x undef]) w := by
  simp [results, h]

theorem getD_at' (xs : List Int) (i j : Nat) : (xs.drop i).getD j 0 = xs.getD (i + j) 0 := by simp [List.getD]

theorem znext_short (p : Option Addr) (n c : Nat) (w : World) (h2 : n < 2) : Calls Ybad.prog 4 #[.slice p n c] w fun e w' => e = .returned (.tuple #[.int .u8 0, .slice none 0 0, .slice none 0 0, .bool false]) ∧ w' = w := by
  have hn2 : (n : Int) < 2 := by omega
  go_enter Ybad.func4, Ybad.ntmps4
  go_wp2_with fail
  try simp only [Exit.inBlock, Exit.then]
  refine bodyPost_ret (results_tmp4 rfl _ _ _) rfl ?_
  exact ⟨rfl, rfl⟩

theorem znext_a (b off n c : Nat) (xs : List Int) (w : World) (h : Bytes w b off n xs) (hc : n ≤ c) (hn : n ≤ 1048576) (h2 : 2 ≤ n) (x1 : Nat) (hx1 : (x1 : Int) = xs.getD 1 0) (ha : x1 < 128) (hb : n - 2 < x1) : Calls Ybad.prog 4 #[.slice (some ⟨b, off, none⟩) n c] w fun e w' => e = .returned (.tuple #[.int .u8 0, .slice none 0 0, .slice none 0 0, .bool false]) ∧ w' = w := by
  have hn2 : ¬ (n : Int) < 2 := by omega
  have hl := h.len
  obtain ⟨x0, hx0⟩ : ∃ x, x = xs.getD 0 0 := ⟨_, rfl⟩
  have g0 : w.cell? ⟨b, off, none⟩ = some (.int .u8 x0) := by rw [hx0]; exact h.cell 0 (by omega)
  have g1 : w.cell? ⟨b, off + 1, none⟩ = some (.int .u8 (x1 : Nat)) := by rw [hx1]; exact h.cell 1 (by omega)
  have hi1 : (1 : Int) < (n : Int) := by omega
  have hi0 : (0 : Int) < (n : Int) := by omega
  have hv1 : IntKind.i64.wrap (x1 : Int) = (x1 : Int) := by rw [IntKind.wrap_i64]; omega
  have hv2 : IntKind.i64.wrap ((n : Int) - 2) = (n : Int) - 2 := by rw [IntKind.wrap_i64]; omega
  have H := hide h
  have HX0 := hide hx0
  have HX1 := hide hx1
  have HLN := hide hl
  clear h hx0 hx1 hl
  have h3 : ¬ (128 : Int) ≤ (x1 : Int) := by omega
  have h4 : (n : Int) - 2 < (x1 : Int) := by omega
  go_enter Ybad.func4, Ybad.ntmps4
  go_wp2_with fail
  try simp only [Exit.inBlock, Exit.then]
  refine bodyPost_ret (results_tmp4 rfl _ _ _) rfl ?_
  exact ⟨rfl, rfl⟩

theorem znext_b (b off n c : Nat) (xs : List Int) (w : World) (h : Bytes w b off n xs) (hc : n ≤ c) (hn : n ≤ 1048576) (h2 : 2 ≤ n) (x1 : Nat) (hx1 : (x1 : Int) = xs.getD 1 0) (ha : x1 < 128) (hb : x1 ≤ n - 2) : Calls Ybad.prog 4 #[.slice (some ⟨b, off, none⟩) n c] w fun e w' => ∃ o1 c1 o2 c2 q, e = .returned (.tuple #[.int .u8 (xs.getD 0 0), .slice (some ⟨b, o1, none⟩) (x1) c1, .slice (some ⟨b, o2, none⟩) (n - (2 + x1)) c2, .bool true]) ∧ w' = w.drewN q ∧ x1 ≤ c1 ∧ Bytes w b o1 (x1) ((xs.take (2 + x1)).drop (2)) ∧ Bytes w b o2 (n - (2 + x1)) (xs.drop (2 + x1)) := by
  have hn2 : ¬ (n : Int) < 2 := by omega
  have hl := h.len
  obtain ⟨x0, hx0⟩ : ∃ x, x = xs.getD 0 0 := ⟨_, rfl⟩
  have g0 : w.cell? ⟨b, off, none⟩ = some (.int .u8 x0) := by rw [hx0]; exact h.cell 0 (by omega)
  have g1 : w.cell? ⟨b, off + 1, none⟩ = some (.int .u8 (x1 : Nat)) := by rw [hx1]; exact h.cell 1 (by omega)
  have hi1 : (1 : Int) < (n : Int) := by omega
  have hi0 : (0 : Int) < (n : Int) := by omega
  have hv1 : IntKind.i64.wrap (x1 : Int) = (x1 : Int) := by rw [IntKind.wrap_i64]; omega
  have hv2 : IntKind.i64.wrap ((n : Int) - 2) = (n : Int) - 2 := by rw [IntKind.wrap_i64]; omega
  have H := hide h
  have HX0 := hide hx0
  have HX1 := hide hx1
  have HLN := hide hl
  clear h hx0 hx1 hl
  have h3 : ¬ (128 : Int) ≤ (x1 : Int) := by omega
  have h4 : ¬ (n : Int) - 2 < (x1 : Int) := by omega
  have hv3 : IntKind.i64.wrap (2 + (x1 : Int)) = 2 + (x1 : Int) := by rw [IntKind.wrap_i64]; omega
  have k1 := cut_both b off n c 2 (2 + x1) .i64 .i64 (by omega) (by omega)
  have k2 := cut_lo b off n c (2 + x1) .i64 (by omega)
  rw [show ((2 : Nat) : Int) = 2 from rfl, show ((2 + x1 : Nat) : Int) = 2 + (x1 : Int) by omega] at k1
  rw [show ((2 + x1 : Nat) : Int) = 2 + (x1 : Int) by omega] at k2
  obtain ⟨o1, ho1⟩ : ∃ o, o = offAt c 2 off := ⟨_, rfl⟩
  obtain ⟨o2, ho2⟩ : ∃ o, o = offAt c (2 + x1) off := ⟨_, rfl⟩
  have s1 := H.out.sub 2 (2 + x1) c (by omega) (by omega) (by omega)
  have s2 := H.out.sub (2 + x1) n c (by omega) (by omega) (by omega)
  rw [← ho1, show 2 + x1 - 2 = x1 by omega] at k1 s1
  rw [← ho2] at k2 s2
  rw [show xs.take n = xs by rw [H.out.len]; exact List.take_length] at s2
  have S1 := hide s1
  have S2 := hide s2
  clear s1 s2 ho1 ho2
  go_enter Ybad.func4, Ybad.ntmps4
  go_wp2_with fail
  go_quiet (fail)
  go_wp2_with fail
  try simp only [Exit.inBlock, Exit.then]
  refine bodyPost_ret (results_tmp4 rfl _ _ _) rfl ?_
  refine ⟨o1, c - 2, o2, c - (2 + x1), _, ?_, rfl, by omega, S1.out, S2.out⟩
  rw [← HX0.out]
  rfl

theorem znext_c (b off n c : Nat) (xs : List Int) (w : World) (h : Bytes w b off n xs) (hc : n ≤ c) (hn : n ≤ 1048576) (h2 : 2 ≤ n) (x1 : Nat) (hx1 : (x1 : Int) = xs.getD 1 0) (h128 : 128 ≤ x1) (h256 : x1 < 256) (ha : x1 - 128 = 0) : Calls Ybad.prog 4 #[.slice (some ⟨b, off, none⟩) n c] w fun e w' => e = .returned (.tuple #[.int .u8 0, .slice none 0 0, .slice none 0 0, .bool false]) ∧ w' = w := by
  have hn2 : ¬ (n : Int) < 2 := by omega
  have hl := h.len
  obtain ⟨x0, hx0⟩ : ∃ x, x = xs.getD 0 0 := ⟨_, rfl⟩
  have g0 : w.cell? ⟨b, off, none⟩ = some (.int .u8 x0) := by rw [hx0]; exact h.cell 0 (by omega)
  have g1 : w.cell? ⟨b, off + 1, none⟩ = some (.int .u8 (x1 : Nat)) := by rw [hx1]; exact h.cell 1 (by omega)
  have hi1 : (1 : Int) < (n : Int) := by omega
  have hi0 : (0 : Int) < (n : Int) := by omega
  have hv1 : IntKind.i64.wrap (x1 : Int) = (x1 : Int) := by rw [IntKind.wrap_i64]; omega
  have hv2 : IntKind.i64.wrap ((n : Int) - 2) = (n : Int) - 2 := by rw [IntKind.wrap_i64]; omega
  have H := hide h
  have HX0 := hide hx0
  have HX1 := hide hx1
  have HLN := hide hl
  clear h hx0 hx1 hl
  have h3 : (128 : Int) ≤ (x1 : Int) := by omega
  have hv4 : IntKind.i64.wrap ((x1 : Int) - 128) = (x1 : Int) - 128 := by rw [IntKind.wrap_i64]; omega
  have h5 : ((x1 : Int) - 128 == 0) = true := by simp; omega
  go_enter Ybad.func4, Ybad.ntmps4
  go_wp2_with fail
  try simp only [Exit.inBlock, Exit.then]
  refine bodyPost_ret (results_tmp4 rfl _ _ _) rfl ?_
  exact ⟨rfl, rfl⟩

theorem znext_d (b off n c : Nat) (xs : List Int) (w : World) (h : Bytes w b off n xs) (hc : n ≤ c) (hn : n ≤ 1048576) (h2 : 2 ≤ n) (x1 : Nat) (hx1 : (x1 : Int) = xs.getD 1 0) (h128 : 128 ≤ x1) (h256 : x1 < 256) (ha : 4 < x1 - 128) : Calls Ybad.prog 4 #[.slice (some ⟨b, off, none⟩) n c] w fun e w' => e = .returned (.tuple #[.int .u8 0, .slice none 0 0, .slice none 0 0, .bool false]) ∧ w' = w := by
  have hn2 : ¬ (n : Int) < 2 := by omega
  have hl := h.len
  obtain ⟨x0, hx0⟩ : ∃ x, x = xs.getD 0 0 := ⟨_, rfl⟩
  have g0 : w.cell? ⟨b, off, none⟩ = some (.int .u8 x0) := by rw [hx0]; exact h.cell 0 (by omega)
  have g1 : w.cell? ⟨b, off + 1, none⟩ = some (.int .u8 (x1 : Nat)) := by rw [hx1]; exact h.cell 1 (by omega)
  have hi1 : (1 : Int) < (n : Int) := by omega
  have hi0 : (0 : Int) < (n : Int) := by omega
  have hv1 : IntKind.i64.wrap (x1 : Int) = (x1 : Int) := by rw [IntKind.wrap_i64]; omega
  have hv2 : IntKind.i64.wrap ((n : Int) - 2) = (n : Int) - 2 := by rw [IntKind.wrap_i64]; omega
  have H := hide h
  have HX0 := hide hx0
  have HX1 := hide hx1
  have HLN := hide hl
  clear h hx0 hx1 hl
  have h3 : (128 : Int) ≤ (x1 : Int) := by omega
  have hv4 : IntKind.i64.wrap ((x1 : Int) - 128) = (x1 : Int) - 128 := by rw [IntKind.wrap_i64]; omega
  have h5 : ((x1 : Int) - 128 == 0) = false := by simp; omega
  have h6 : (4 : Int) < (x1 : Int) - 128 := by omega
  go_enter Ybad.func4, Ybad.ntmps4
  go_wp2_with fail
  try simp only [Exit.inBlock, Exit.then]
  refine bodyPost_ret (results_tmp4 rfl _ _ _) rfl ?_
  exact ⟨rfl, rfl⟩

theorem znext_e (b off n c : Nat) (xs : List Int) (w : World) (h : Bytes w b off n xs) (hc : n ≤ c) (hn : n ≤ 1048576) (h2 : 2 ≤ n) (x1 : Nat) (hx1 : (x1 : Int) = xs.getD 1 0) (h128 : 128 ≤ x1) (h256 : x1 < 256) (ha : n - 2 < x1 - 128) (hk0 : 0 < x1 - 128) (hk4 : x1 - 128 ≤ 4) : Calls Ybad.prog 4 #[.slice (some ⟨b, off, none⟩) n c] w fun e w' => e = .returned (.tuple #[.int .u8 0, .slice none 0 0, .slice none 0 0, .bool false]) ∧ w' = w := by
  have hn2 : ¬ (n : Int) < 2 := by omega
  have hl := h.len
  obtain ⟨x0, hx0⟩ : ∃ x, x = xs.getD 0 0 := ⟨_, rfl⟩
  have g0 : w.cell? ⟨b, off, none⟩ = some (.int .u8 x0) := by rw [hx0]; exact h.cell 0 (by omega)
  have g1 : w.cell? ⟨b, off + 1, none⟩ = some (.int .u8 (x1 : Nat)) := by rw [hx1]; exact h.cell 1 (by omega)
  have hi1 : (1 : Int) < (n : Int) := by omega
  have hi0 : (0 : Int) < (n : Int) := by omega
  have hv1 : IntKind.i64.wrap (x1 : Int) = (x1 : Int) := by rw [IntKind.wrap_i64]; omega
  have hv2 : IntKind.i64.wrap ((n : Int) - 2) = (n : Int) - 2 := by rw [IntKind.wrap_i64]; omega
  have H := hide h
  have HX0 := hide hx0
  have HX1 := hide hx1
  have HLN := hide hl
  clear h hx0 hx1 hl
  have h3 : (128 : Int) ≤ (x1 : Int) := by omega
  have hv4 : IntKind.i64.wrap ((x1 : Int) - 128) = (x1 : Int) - 128 := by rw [IntKind.wrap_i64]; omega
  have h5 : ((x1 : Int) - 128 == 0) = false := by simp; omega
  have h6 : ¬ (4 : Int) < (x1 : Int) - 128 := by omega
  have h7 : (n : Int) - 2 < (x1 : Int) - 128 := by omega
  go_enter Ybad.func4, Ybad.ntmps4
  go_wp2_with fail
  try simp only [Exit.inBlock, Exit.then]
  refine bodyPost_ret (results_tmp4 rfl _ _ _) rfl ?_
  exact ⟨rfl, rfl⟩

set_option maxRecDepth 100000 in
set_option maxHeartbeats 1600000 in
theorem znext_f (b off n c : Nat) (xs : List Int) (w : World) (h : Bytes w b off n xs) (hc : n ≤ c) (hn : n ≤ 1048576) (h2 : 2 ≤ n) (x1 : Nat) (hx1 : (x1 : Int) = xs.getD 1 0) (h128 : 128 ≤ x1) (h256 : x1 < 256) (hk0 : 0 < x1 - 128) (hk4 : x1 - 128 ≤ 4) (hkn : x1 - 128 ≤ n - 2) (L : Nat) (hL : (L : Int) = uF 0 ((xs.drop 2).take (x1 - 128))) (hLn : n - (2 + (x1 - 128)) < L) : Calls Ybad.prog 4 #[.slice (some ⟨b, off, none⟩) n c] w fun e w' => e = .returned (.tuple #[.int .u8 0, .slice none 0 0, .slice none 0 0, .bool false]) ∧ w' = w := by
  have hn2 : ¬ (n : Int) < 2 := by omega
  have hl := h.len
  obtain ⟨x0, hx0⟩ : ∃ x, x = xs.getD 0 0 := ⟨_, rfl⟩
  have g0 : w.cell? ⟨b, off, none⟩ = some (.int .u8 x0) := by rw [hx0]; exact h.cell 0 (by omega)
  have g1 : w.cell? ⟨b, off + 1, none⟩ = some (.int .u8 (x1 : Nat)) := by rw [hx1]; exact h.cell 1 (by omega)
  have hi1 : (1 : Int) < (n : Int) := by omega
  have hi0 : (0 : Int) < (n : Int) := by omega
  have hv1 : IntKind.i64.wrap (x1 : Int) = (x1 : Int) := by rw [IntKind.wrap_i64]; omega
  have hv2 : IntKind.i64.wrap ((n : Int) - 2) = (n : Int) - 2 := by rw [IntKind.wrap_i64]; omega
  have H := hide h
  have HX0 := hide hx0
  have HX1 := hide hx1
  have HLN := hide hl
  clear h hx0 hx1 hl
  obtain ⟨kk, hkk⟩ : ∃ kk, kk = x1 - 128 := ⟨_, rfl⟩
  rw [← hkk] at hk0 hk4 hkn hL hLn
  skip
  obtain ⟨s, hs⟩ : ∃ s, s = 2 + kk := ⟨_, rfl⟩
  rw [← hs] at hLn
  have hx1k : (x1 : Int) = (kk : Int) + 128 := by omega
  rw [hx1k] at g1 hv1
  have HKK := hide hkk
  have HX1K := hide hx1k
  clear hkk hx1k h128 h256 HX1
  have h3 : (128 : Int) ≤ (kk : Int) + 128 := by omega
  have hv3 : (kk : Int) + 128 - 128 = (kk : Int) := by omega
  have hv4 : IntKind.i64.wrap ((kk : Int)) = (kk : Int) := by rw [IntKind.wrap_i64]; omega
  have h5 : ((kk : Int) == 0) = false := by simp; omega
  have h6 : ¬ (4 : Int) < (kk : Int) := by omega
  have h7 : ¬ (n : Int) - 2 < (kk : Int) := by omega
  have hL4 : (L : Int) < 4294967296 := by
    have hu := (uF_bound ((xs.drop 2).take kk) (fun x hx => H.out.byte x (List.mem_of_mem_drop (List.mem_of_mem_take hx)))).2
    have hp : (256 : Int) ^ ((xs.drop 2).take kk).length ≤ 256 ^ 4 := pow256 (by simp; omega)
    have e4 : (256 : Int) ^ 4 = 4294967296 := by decide
    omega
  have HL := hide hL
  clear hL
  have hv5 : IntKind.i64.wrap (2 + (kk : Int)) = (s : Int) := by rw [IntKind.wrap_i64]; omega
  have hv5' : 2 + (kk : Int) = (s : Int) := by omega
  have hv7 : IntKind.i64.wrap ((n : Int) - (s : Int)) = (n : Int) - (s : Int) := by rw [IntKind.wrap_i64]; omega
  have h8 : (n : Int) - (s : Int) < (L : Int) := by omega
  have HSK := hide hs
  clear hs
  go_enter Ybad.func4, Ybad.ntmps4
  go_wp2_with fail
  go_loop [8, 10] (fun u i => ∃ (j : Nat) (a : Int), j ≤ kk ∧ i = .int .i64 j ∧ u = .int .i64 a ∧ Hid (a = uF 0 ((xs.drop 2).take j) ∧ 0 ≤ a ∧ a < 256 ^ j)) (fun _ i => kk - (intOf i).toNat)
  case atStart => exact ⟨0, 0, Nat.zero_le _, rfl, rfl, by simp [uF], by omega, by omega⟩
  case round =>
    obtain ⟨j, a, hjk, rfl, rfl, hI⟩ := hrel
    by_cases hlt : j < kk
    · obtain ⟨e1, e2, e3⟩ := hI.out
      obtain ⟨x, hx⟩ : ∃ x, x = xs.getD (2 + j) 0 := ⟨_, rfl⟩
      have hbx := H.out.at (i := 2 + j) (by omega)
      rw [← hx] at hbx
      have g2 : w.cell? ⟨b, off + (2 + j), none⟩ = some (.int .u8 x) := by rw [hx]; exact H.out.cell (2 + j) (by omega)
      have hp : (256 : Int) ^ j ≤ 256 ^ 3 := pow256 (by omega)
      have e3' : (256 : Int) ^ 3 = 16777216 := by decide
      rw [e3'] at hp
      have hj1 : (j : Int) < (kk : Int) := by omega
      have hv8 : IntKind.i64.wrap (2 + (j : Int)) = 2 + (j : Int) := by rw [IntKind.wrap_i64]; omega
      have hv9 : IntKind.i64.wrap (a * 256) = a * 256 := by rw [IntKind.wrap_i64]; omega
      have hv10 : IntKind.i64.wrap (a * 256 + x) = a * 256 + x := by rw [IntKind.wrap_i64]; omega
      have hj2 : (0 : Int) ≤ 2 + (j : Int) := by omega
      have hj3 : 2 + (j : Int) < (n : Int) := by omega
      have hjt : (2 + (j : Int)).toNat = 2 + j := by omega
      have hnew : a * 256 + x = uF 0 ((xs.drop 2).take (j + 1)) ∧ 0 ≤ a * 256 + x ∧ a * 256 + x < 256 ^ (j + 1) := by
        refine ⟨?_, ?_, ?_⟩
        · rw [uF_take _ _ (by simp; have := HLN.out; omega), ← e1, getD_at', hx]
        · omega
        · rw [Int.pow_succ]; omega
      have HN := hide hnew
      clear e1 e2 e3 hp hnew hx
      go_wp2_with fail
      go_round
      case rel => exact ⟨j + 1, a * 256 + x, by omega, by go_num, rfl, HN⟩
      case measure => simp [intOf]; omega
    · obtain rfl : kk = j := by omega
      have haL : a = (L : Int) := by rw [hI.out.1, HL.out]
      subst haL
      clear hI
      go_upto_region 16 with fail
      clear hv5 hv5' hv3 hv4 hv1 hv2 h3 h5 h6 h7 hL4 g1 hi1 hn2
      go_wp2_with fail
      try simp only [Exit.inBlock, Exit.then]
      refine bodyPost_ret (results_tmp4 rfl _ _ _) rfl ?_
      exact ⟨rfl, rfl⟩

set_option maxRecDepth 100000 in
set_option maxHeartbeats 1600000 in
theorem znext_g (b off n c : Nat) (xs : List Int) (w : World) (h : Bytes w b off n xs) (hc : n ≤ c) (hn : n ≤ 1048576) (h2 : 2 ≤ n) (x1 : Nat) (hx1 : (x1 : Int) = xs.getD 1 0) (h128 : 128 ≤ x1) (h256 : x1 < 256) (hk0 : 0 < x1 - 128) (hk4 : x1 - 128 ≤ 4) (hkn : x1 - 128 ≤ n - 2) (L : Nat) (hL : (L : Int) = uF 0 ((xs.drop 2).take (x1 - 128))) (hLn : L ≤ n - (2 + (x1 - 128))) : Calls Ybad.prog 4 #[.slice (some ⟨b, off, none⟩) n c] w fun e w' => ∃ o1 c1 o2 c2 q, e = .returned (.tuple #[.int .u8 (xs.getD 0 0), .slice (some ⟨b, o1, none⟩) (L) c1, .slice (some ⟨b, o2, none⟩) (n - (2 + (x1 - 128) + L)) c2, .bool true]) ∧ w' = w.drewN q ∧ L ≤ c1 ∧ Bytes w b o1 (L) ((xs.take (2 + (x1 - 128) + L)).drop (2 + (x1 - 128))) ∧ Bytes w b o2 (n - (2 + (x1 - 128) + L)) (xs.drop (2 + (x1 - 128) + L)) := by
  have hn2 : ¬ (n : Int) < 2 := by omega
  have hl := h.len
  obtain ⟨x0, hx0⟩ : ∃ x, x = xs.getD 0 0 := ⟨_, rfl⟩
  have g0 : w.cell? ⟨b, off, none⟩ = some (.int .u8 x0) := by rw [hx0]; exact h.cell 0 (by omega)
  have g1 : w.cell? ⟨b, off + 1, none⟩ = some (.int .u8 (x1 : Nat)) := by rw [hx1]; exact h.cell 1 (by omega)
  have hi1 : (1 : Int) < (n : Int) := by omega
  have hi0 : (0 : Int) < (n : Int) := by omega
  have hv1 : IntKind.i64.wrap (x1 : Int) = (x1 : Int) := by rw [IntKind.wrap_i64]; omega
  have hv2 : IntKind.i64.wrap ((n : Int) - 2) = (n : Int) - 2 := by rw [IntKind.wrap_i64]; omega
  have H := hide h
  have HX0 := hide hx0
  have HX1 := hide hx1
  have HLN := hide hl
  clear h hx0 hx1 hl
  obtain ⟨kk, hkk⟩ : ∃ kk, kk = x1 - 128 := ⟨_, rfl⟩
  rw [← hkk] at hk0 hk4 hkn hL hLn
  rw [← hkk]
  obtain ⟨s, hs⟩ : ∃ s, s = 2 + kk := ⟨_, rfl⟩
  rw [← hs] at hLn ⊢
  have hx1k : (x1 : Int) = (kk : Int) + 128 := by omega
  rw [hx1k] at g1 hv1
  have HKK := hide hkk
  have HX1K := hide hx1k
  clear hkk hx1k h128 h256 HX1
  have h3 : (128 : Int) ≤ (kk : Int) + 128 := by omega
  have hv3 : (kk : Int) + 128 - 128 = (kk : Int) := by omega
  have hv4 : IntKind.i64.wrap ((kk : Int)) = (kk : Int) := by rw [IntKind.wrap_i64]; omega
  have h5 : ((kk : Int) == 0) = false := by simp; omega
  have h6 : ¬ (4 : Int) < (kk : Int) := by omega
  have h7 : ¬ (n : Int) - 2 < (kk : Int) := by omega
  have hL4 : (L : Int) < 4294967296 := by
    have hu := (uF_bound ((xs.drop 2).take kk) (fun x hx => H.out.byte x (List.mem_of_mem_drop (List.mem_of_mem_take hx)))).2
    have hp : (256 : Int) ^ ((xs.drop 2).take kk).length ≤ 256 ^ 4 := pow256 (by simp; omega)
    have e4 : (256 : Int) ^ 4 = 4294967296 := by decide
    omega
  have HL := hide hL
  clear hL
  have k1 := cut_both b off n c s (s + L) .i64 .i64 (by omega) (by omega)
  have k2 := cut_lo b off n c (s + L) .i64 (by omega)
  rw [show ((s + L : Nat) : Int) = (s : Int) + (L : Int) by omega] at k1 k2
  obtain ⟨o1, ho1⟩ : ∃ o, o = offAt c s off := ⟨_, rfl⟩
  obtain ⟨o2, ho2⟩ : ∃ o, o = offAt c (s + L) off := ⟨_, rfl⟩
  have s1 := H.out.sub s (s + L) c (by omega) (by omega) (by omega)
  have s2 := H.out.sub (s + L) n c (by omega) (by omega) (by omega)
  rw [← ho1, show s + L - s = L by omega] at k1 s1
  rw [← ho2] at k2 s2
  rw [show xs.take n = xs by rw [H.out.len]; exact List.take_length] at s2
  have S1 := hide s1
  have S2 := hide s2
  have hv6 : IntKind.i64.wrap ((s : Int) + (L : Int)) = (s : Int) + (L : Int) := by rw [IntKind.wrap_i64]; omega
  clear s1 s2 ho1 ho2
  have hv5 : IntKind.i64.wrap (2 + (kk : Int)) = (s : Int) := by rw [IntKind.wrap_i64]; omega
  have hv5' : 2 + (kk : Int) = (s : Int) := by omega
  have hv7 : IntKind.i64.wrap ((n : Int) - (s : Int)) = (n : Int) - (s : Int) := by rw [IntKind.wrap_i64]; omega
  have h8 : ¬ (n : Int) - (s : Int) < (L : Int) := by omega
  have HSK := hide hs
  clear hs
  go_enter Ybad.func4, Ybad.ntmps4
  go_wp2_with fail
  go_loop [8, 10] (fun u i => ∃ (j : Nat) (a : Int), j ≤ kk ∧ i = .int .i64 j ∧ u = .int .i64 a ∧ Hid (a = uF 0 ((xs.drop 2).take j) ∧ 0 ≤ a ∧ a < 256 ^ j)) (fun _ i => kk - (intOf i).toNat)
  case atStart => exact ⟨0, 0, Nat.zero_le _, rfl, rfl, by simp [uF], by omega, by omega⟩
  case round =>
    obtain ⟨j, a, hjk, rfl, rfl, hI⟩ := hrel
    by_cases hlt : j < kk
    · obtain ⟨e1, e2, e3⟩ := hI.out
      obtain ⟨x, hx⟩ : ∃ x, x = xs.getD (2 + j) 0 := ⟨_, rfl⟩
      have hbx := H.out.at (i := 2 + j) (by omega)
      rw [← hx] at hbx
      have g2 : w.cell? ⟨b, off + (2 + j), none⟩ = some (.int .u8 x) := by rw [hx]; exact H.out.cell (2 + j) (by omega)
      have hp : (256 : Int) ^ j ≤ 256 ^ 3 := pow256 (by omega)
      have e3' : (256 : Int) ^ 3 = 16777216 := by decide
      rw [e3'] at hp
      have hj1 : (j : Int) < (kk : Int) := by omega
      have hv8 : IntKind.i64.wrap (2 + (j : Int)) = 2 + (j : Int) := by rw [IntKind.wrap_i64]; omega
      have hv9 : IntKind.i64.wrap (a * 256) = a * 256 := by rw [IntKind.wrap_i64]; omega
      have hv10 : IntKind.i64.wrap (a * 256 + x) = a * 256 + x := by rw [IntKind.wrap_i64]; omega
      have hj2 : (0 : Int) ≤ 2 + (j : Int) := by omega
      have hj3 : 2 + (j : Int) < (n : Int) := by omega
      have hjt : (2 + (j : Int)).toNat = 2 + j := by omega
      have hnew : a * 256 + x = uF 0 ((xs.drop 2).take (j + 1)) ∧ 0 ≤ a * 256 + x ∧ a * 256 + x < 256 ^ (j + 1) := by
        refine ⟨?_, ?_, ?_⟩
        · rw [uF_take _ _ (by simp; have := HLN.out; omega), ← e1, getD_at', hx]
        · omega
        · rw [Int.pow_succ]; omega
      have HN := hide hnew
      clear e1 e2 e3 hp hnew hx
      go_wp2_with fail
      go_round
      case rel => exact ⟨j + 1, a * 256 + x, by omega, by go_num, rfl, HN⟩
      case measure => simp [intOf]; omega
    · obtain rfl : kk = j := by omega
      have haL : a = (L : Int) := by rw [hI.out.1, HL.out]
      subst haL
      clear hI
      go_upto_region 16 with fail
      clear hv5 hv5' hv3 hv4 hv1 hv2 h3 h5 h6 h7 hL4 g1 hi1 hn2
      go_wp2_with fail
      go_quiet (fail)
      go_wp2_with fail
      try simp only [Exit.inBlock, Exit.then]
      refine bodyPost_ret (results_tmp4 rfl _ _ _) rfl ?_
      refine ⟨o1, c - s, o2, c - (s + L), _, ?_, rfl, by have := HSK.out; omega, S1.out, S2.out⟩
      rw [← HX0.out]
      rfl
end Go.Proofs.YbulkdphmDoor
