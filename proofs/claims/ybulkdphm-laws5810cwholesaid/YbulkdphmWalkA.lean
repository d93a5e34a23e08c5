/-
  The law's walk where no deadline is set.
-/
import Derived.Test.YbulkdphmRows
import Derived.WalkKit
import Derived.ProofKit
import Derived.OpenShut
import Derived.WalkLawsBesides
import Derived.BigQuiet
import Derived.Deep.RegionWith
import Derived.Deep.OwnRows
import Derived.Test.YbulkdphmLook
namespace Go.Proofs.Ybulkdphm
open Go.ChangeShapes Go.WideShapes Go.ChangeAt Go.RowKit
open Go.ChangeMaps (setBlock)
set_option linter.unusedVariables false

set_option maxRecDepth 100000 in
set_option maxHeartbeats 800000 in
theorem walk_free (n d : Int) (hd : d = 0) (ln fail : Bool) (p k : Nat) (hp : p ≤ 255) (hk8 : k < 8) (hk : (p : Int) % 8 = (k : Int)) (d0 : -9223372036854775808 ≤ d) (d1 : d ≤ 9223372036854775807) (w : World) :
    Calls Yba.prog 4 #[.int .i64 n, .int .i64 d, .bool ln, .bool fail, .int .u8 (p : Int)] w fun e w' => e = .returned (.bool true) ∧ Below w.heap.size w w' := by
  have hmk := fun wx => run_make_row' (P := Yba.prog) 35 36 (.pointer none) 8 Yba.underlying35 info36' rfl .i64 .i64 k (by omega) (by omega) wx
  have hd0 : (d != 0) = false := by simp [hd]
  have hneq := neq59 0 0
  have hgu := guard59
  have HD := hide hd
  clear hd
  go_enter Yba.func4, Yba.ntmps4
  go_wp2_with fail
  refine (new_any n _).mono ?_
  rintro e w1 ⟨rfl, rfl⟩
  go_wp2_with fail
  obtain ⟨W0, hW0⟩ : ∃ W0, W0 = (((w.alloc (.chan 1024 #[] false 0 0 false)).alloc (.map #[] 0)).alloc (.cells #[.int .i64 n, .pointer none, .chan (some w.heap.size), .int .u64 0, .int .u32 0, .int .i32 0, .int .u32 0, .map (some (w.heap.size + 1)), .int .u64 0, .int .i64 0, .pointer none] 61)).alloc
    (.cells (madeCells #[.pointer none] k) 36) := ⟨_, rfl⟩
  have hst : St (w.heap.size + 1 + 1 + 1) (w.heap.size + 2) (w.heap.size + 1) w.heap.size k n 0 0 w W0 0 := by
    rw [hW0]
    refine ⟨((((Below.refl _ w).alloc (Nat.le_refl _) _).alloc (by simp) _).alloc (by simp; omega) _).alloc (by simp; omega) _, by simp, ?_, ?_, ?_, fun j hj => by omega⟩
    · rw [hp_alloc_lt (by simp <;> omega), hp_alloc_lt (by simp <;> omega), hp_alloc_at (by simp), ents_zero]
    · rw [hp_alloc_lt (by simp <;> omega), hp_alloc_at (by simp)]
    · rw [hp_alloc_at (by simp), rowA_made (w.heap.size + 1 + 1 + 1 + 1)]
  rw [← hW0]
  clear hW0 hmk
  obtain ⟨ob, hob⟩ : ∃ ob, ob = w.heap.size + 1 + 1 + 1 := ⟨_, rfl⟩
  obtain ⟨rb, hrb⟩ : ∃ rb, rb = w.heap.size + 2 := ⟨_, rfl⟩
  obtain ⟨mb, hmb⟩ : ∃ mb, mb = w.heap.size + 1 := ⟨_, rfl⟩
  rw [← hob, ← hrb, ← hmb] at hst
  rw [← hob, ← hrb]
  have o1 : rb < ob := by omega
  have o2 : mb < ob := by omega
  have o3 : w.heap.size ≤ mb := by omega
  have o4 : w.heap.size ≤ ob := by omega
  have o5 : w.heap.size ≤ rb := by omega
  have o6 : rb ≠ mb := by omega
  clear hob hrb hmb
  have HST := hide hst
  clear hst
  go_loopw [14] (fun i wr => ∃ j : Nat, j ≤ k ∧ i = .int .i64 j ∧ Hid (St ob rb mb w.heap.size k n 0 0 w wr j)) (fun i _ => k - (intOf i).toNat)
  case atStart => exact ⟨0, Nat.zero_le _, rfl, HST⟩
  case round =>
    obtain ⟨j, hj, rfl, hS⟩ := hrel
    by_cases hlt : j < k
    · have hs := hS.out.size
      have c1 : wr.cell? ⟨ob, j, none⟩ = some (rowAt (ob + 1) j j) := cell_at hS.out.row (rowA_at hlt)
      have f1 : wr.frozen? ⟨ob, j, none⟩ = false := frozen_at hS.out.row
      have c2 : wr.cell? ⟨rb, 7, none⟩ = some (.map (some mb)) := cell_at hS.out.recv rfl
      have b1 : rb < wr.heap.size := by omega
      have b2 : ob < wr.heap.size := by omega
      have b3 : rb ≠ ob := by omega
      have hput := hS.out.put hlt o2
      clear hs
      go_wp2_with fail
      go_roundw
      case rel => exact ⟨j + 1, by omega, by go_num, hS.out.round' hlt o3 o4 o1 o2⟩
      case measure => simp [intOf]; omega
    · have hjk : j = k := by omega
      subst hjk
      go_wp2_with fail
      refine (add_any d _ d0 d1).mono ?_
      rintro e w1 ⟨rfl, C1, C2, rfl⟩
      obtain ⟨x, hx⟩ : ∃ x, x = d % 1000000000 := ⟨_, rfl⟩
      obtain ⟨y, hy⟩ : ∃ y, y = d / 1000000000 := ⟨_, rfl⟩
      rw [← hx, ← hy]
      have HX := hide hx
      have HY := hide hy
      clear hx hy
      have hs := hS.out.size
      have c8 : wr.cell? ⟨rb, 8, none⟩ = some (.int .u64 0) := cell_at hS.out.recv rfl
      have c9 : wr.cell? ⟨rb, 9, none⟩ = some (.int .i64 0) := cell_at hS.out.recv rfl
      have c10 : wr.cell? ⟨rb, 10, none⟩ = some (.pointer none) := cell_at hS.out.recv rfl
      have z8 : wr.frozen? ⟨rb, 8, none⟩ = false := frozen_at hS.out.recv
      have z9 : wr.frozen? ⟨rb, 9, none⟩ = false := frozen_at hS.out.recv
      have z10 : wr.frozen? ⟨rb, 10, none⟩ = false := frozen_at hS.out.recv
      have b0 : rb < wr.heap.size := by omega
      have b1 : rb < wr.heap.size + 1 := by omega
      have b2 : rb < wr.heap.size + 1 + 1 := by omega
      have b3 : rb < wr.heap.size + 1 + 1 + 1 := by omega
      have HS := hide hs
      clear hs
      have b4 : rb < wr.heap.size + 1 + 1 + 1 + 1 := by omega
      go_wp2_with fail
      have hA := hS.out.ready o5 o1 o2 o6 C1 C2 x y fail
      have e1 : ob + 1 + j ≤ wr.heap.size + 1 + 1 := by have := HS.out; omega
      have e2 : wr.heap.size + 1 + 1 < wr.heap.size + 1 + 1 + 1 := by omega
      obtain ⟨db, hdb⟩ : ∃ db, db = wr.heap.size + 1 + 1 := ⟨_, rfl⟩
      obtain ⟨sb, hsb⟩ : ∃ sb, sb = wr.heap.size + 1 + 1 + 1 := ⟨_, rfl⟩
      rw [← hsb, ← hdb] at hA e2
      rw [← hdb] at e1
      rw [← hsb, ← hdb]
      have hx0 : x = 0 := by rw [HX.out, HD.out]; rfl
      have hy0 : y = 0 := by rw [HY.out, HD.out]; rfl
      subst hx0 hy0
      refine (open_free rb mb sb w.heap.size j n ln _ (ents (ob + 1) j) _ hA.recv hA.map hA.sock (hA.keys (by omega))).mono ?_
      rintro e w1 ⟨rfl, kp, h1, h2⟩
      have hA1 := hA.open_free o5 o3 o1 o2 e1 e2 kp h1 h2
      clear hA kp h1 h2 hS HS c8 c9 c10 z8 z9 z10 b0 b1 b2 b3 b4 hdb hsb
      go_wp2_with fail
      refine (trylock_free ⟨rb, 5, none⟩ _ (cell_at hA1.recv rfl) (frozen_at hA1.recv)).mono ?_
      rintro e w2 ⟨rfl, rfl⟩
      have hA2 := hA1.lock 1 o5 o1 e1 e2
      go_wp2_with fail
      refine (unlock_held ⟨rb, 5, none⟩ _ (cell_at hA2.recv rfl) (frozen_at hA2.recv)).mono ?_
      rintro e w2 ⟨rfl, rfl⟩
      have hA3 := hA2.lock 0 o5 o1 e1 e2
      obtain ⟨W, hW⟩ : ∃ W, W = (w1.setCell ⟨rb, 5, none⟩ (.int .i32 1)).setCell ⟨rb, 5, none⟩ (.int .i32 0) := ⟨_, rfl⟩
      rw [← hW] at hA3
      rw [← hW]
      clear hW hA1 hA2
      have c0 : W.cell? ⟨rb, 0, none⟩ = some (.int .i64 n) := cell_at hA3.recv rfl
      have c7 : W.cell? ⟨rb, 7, none⟩ = some (.map (some mb)) := cell_at hA3.recv rfl
      have c8 : W.cell? ⟨rb, 8, none⟩ = some (.int .u64 0) := cell_at hA3.recv rfl
      have c9 : W.cell? ⟨rb, 9, none⟩ = some (.int .i64 0) := cell_at hA3.recv rfl
      have c10 : W.cell? ⟨rb, 10, none⟩ = some (.pointer none) := cell_at hA3.recv rfl
      have l0 : W.cell? ⟨db, 0, none⟩ = some (.int .u64 0) := cell_at hA3.dl rfl
      have l1 : W.cell? ⟨db, 1, none⟩ = some (.int .i64 0) := cell_at hA3.dl rfl
      have l2 : W.cell? ⟨db, 2, none⟩ = some (.pointer none) := cell_at hA3.dl rfl
      have s0 : W.cell? ⟨sb, 0, none⟩ = some (.slice none 0 0) := cell_at hA3.sock rfl
      have s1 : W.cell? ⟨sb, 1, none⟩ = some (.int .i64 0) := cell_at hA3.sock rfl
      have HA := hide hA3
      clear hA3
      go_wp2_with fail
      go_quiet (fail)
      obtain ⟨W2, hW2⟩ : ∃ W2, W2 = W.drewN nq := ⟨_, rfl⟩
      have hA4 := HA.out.drewN nq
      rw [← hW2] at hA4
      rw [← hW2]
      clear hW2 HA c0 c7 c8 c9 c10 l0 l1 l2 s0 s1
      have c3 : W2.cell? ⟨rb, 3, none⟩ = some (.int .u64 4294967296) := cell_at hA4.recv rfl
      have z3 : W2.frozen? ⟨rb, 3, none⟩ = false := frozen_at hA4.recv
      have c7 : W2.cell? ⟨rb, 7, none⟩ = some (.map (some mb)) := cell_at hA4.recv rfl
      have s0 : W2.cell? ⟨sb, 0, none⟩ = some (.slice none 0 0) := cell_at hA4.sock rfl
      have s1 : W2.cell? ⟨sb, 1, none⟩ = some (.int .i64 0) := cell_at hA4.sock rfl
      have hin := hA4.look_in (by omega)
      have hlen := run_len_map hA4.map
      rw [Array.size_push, ents_size, Int.natCast_add] at hlen
      have HA := hide hA4
      clear hA4
      go_wp2_with fail
      go_loop [21] (fun i => ∃ q : Nat, q ≤ j ∧ i = .int .i64 q) (fun i => j - (intOf i).toNat)
      case atStart => exact ⟨0, Nat.zero_le _, rfl⟩
      case round =>
        obtain ⟨q, hq, rfl⟩ := hrel
        by_cases hqj : q < j
        · have r1 : W2.cell? ⟨ob, q, none⟩ = some (.pointer (some ⟨ob + 1 + q, 0, none⟩)) := cell_at HA.out.row ((rowA_at hqj).trans (by rw [rowAt_lt hqj]))
          have r2 : W2.cell? ⟨ob + 1 + q, 0, none⟩ = some (.slice none 0 0) := cell_at (HA.out.socks q hqj) rfl
          have r3 : W2.cell? ⟨ob + 1 + q, 1, none⟩ = some (.int .i64 0) := cell_at (HA.out.socks q hqj) rfl
          have hl := HA.out.look (by omega) (.inr rfl) hqj
          go_wp2_with fail
          go_round
          case rel => exact ⟨q + 1, by omega, by go_num⟩
          case measure => simp [intOf]; omega
        · go_wp2_with fail
          refine (wg_done rb 3 _ c3 z3).mono ?_
          rintro e w3 ⟨rfl, rfl⟩
          go_wp2_with fail
          go_ret
          exact ⟨rfl, HA.out.below.setCell (p := ⟨rb, 3, none⟩) o5 _⟩

end Go.Proofs.Ybulkdphm
