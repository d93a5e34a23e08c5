/-
  'zzs5816cready'.
-/
import Derived.Test.YbulkdpksRows
import Derived.WalkKit
import Derived.ProofKit
import Derived.OpenShut
import Derived.WalkLawsBesides
import Derived.BigQuiet
import Derived.Laws.BitsAllLaws
import Derived.Laws.StructEq
import Derived.Outline
import Derived.Test.YbulkdpksPool
import Derived.Deep.RegionWith
import Derived.Deep.RegionHeld3
import Derived.Deep.DeepCutAuto
import Derived.Deep.DrawnRows
namespace Go.Proofs.Ybulkdpks
open Go.ChangeShapes Go.WideShapes Go.ChangeAt Go.RowKit
open Go.ChangeMaps (setBlock)
set_option linter.unusedVariables false


theorem Grew.drew' {B : Nat} {w v : World} (h : Below B w v) : Below B w v.drew := below_drewN h 1

/-- The row holds, oldest first, 1000 .. and (app) t behind them. -/
def Holds (L h k : Nat) (g : Nat → Int) (t : Int) (app : Bool) : Prop := (∀ i, i < k → g ((h + i) % L) = 1000 + i) ∧ (app = true → g ((h + k) % L) = t)

theorem ready_zero (cb bb L h : Nat) (t : Int) (w : World) (hL : L ≤ 512) (c6 : w.cell? ⟨cb, 6, none⟩ = some (.int .i64 h)) (c7 : w.cell? ⟨cb, 7, none⟩ = some (.int .i64 0)) (c8 : w.cell? ⟨cb, 8, none⟩ = some (.slice (some ⟨bb, 0, none⟩) L L)) :
    Calls Yba.prog 9 #[.pointer (some ⟨cb, 6, none⟩), .int .i64 0, .int .i64 t, .bool false] w fun e w' => e = .returned (.bool true) ∧ w' = w := by
  go_enter Yba.func9, Yba.ntmps9
  go_wp2_with fail
  go_loop [11] (fun i => i = .int .i64 0) (fun _ => 0)
  case atStart => rfl
  case round =>
    subst hrel
    go_wp2_with fail
    go_ret
    exact ⟨rfl, rfl⟩


set_option maxRecDepth 100000 in
set_option maxHeartbeats 1600000 in
theorem ready_app (cb bb L h k n : Nat) (g : Nat → Int) (t : Int) (w : World) (hk : k ≤ 255) (hn : n = (k + 1)) (hn0 : 0 < n) (r : Row L h n) (hG : Holds L h k g t true) (hcb : cb < w.heap.size)
    (c6 : w.cell? ⟨cb, 6, none⟩ = some (.int .i64 h)) (c7 : w.cell? ⟨cb, 7, none⟩ = some (.int .i64 n)) (c8 : w.cell? ⟨cb, 8, none⟩ = some (.slice (some ⟨bb, 0, none⟩) L L)) (hB : w.heap[bb]? = some (.cells (jobs g L).toArray 32)) :
    Calls Yba.prog 9 #[.pointer (some ⟨cb, 6, none⟩), .int .i64 k, .int .i64 t, .bool true] w fun e w' => e = .returned (.bool true) ∧ Below w.heap.size w w' := by
  have hle := r.le
  obtain ⟨hL9, hhL, hnL⟩ := hle
  have hbb := lt_of_block hB
  obtain ⟨e, e3, e9, hL, hh⟩ : ∃ e, 3 ≤ e ∧ e ≤ 9 ∧ L = 2 ^ e ∧ h < L := by
    rcases r with ⟨_, _, hx⟩ | ⟨e, e3, e9, hL, hh, _⟩
    · omega
    · exact ⟨e, e3, e9, hL, hh⟩
  have hbit : (bits .and .i64 (L : Int) ((L : Int) - 1) != 0) = false := by
    rw [ring_mod e L L hL e9 (by omega), Nat.mod_self]
    rfl
  have hw2 : IntKind.i64.wrap ((L : Int) - 1) = (L : Int) - 1 := by rw [IntKind.wrap_i64]; omega
  have hLn : ¬ ((L : Int) < (n : Int)) := by omega
  have hn1 : (0 : Int) < (n : Int) := by omega
  have HB := hide hB
  have HG := hide hG
  have HL := hide hL
  clear hB hG r hL
  have hnn : (((n : Int) != (k : Int) + 1) = false) := by simp; omega
  have hwk : IntKind.i64.wrap ((k : Int) + 1) = (k : Int) + 1 := by rw [IntKind.wrap_i64]; omega
  go_enter Yba.func9, Yba.ntmps9
  go_upto_region 4 with fail
  have hnk : (k : Int) + 1 = (n : Int) := by omega
  rw [hnk]
  clear hnn
  have hnn : ((n : Int) != (n : Int)) = false := by simp
  have HN := hide hn
  have HNK := hide hnk
  clear hn hnk
  go_wp2_with fail
  go_loopw [11] (fun i wr => ∃ j : Nat, j ≤ n ∧ i = .int .i64 j ∧ Hid (Below w.heap.size w wr)) (fun i _ => n - (intOf i).toNat)
  case atStart => exact ⟨0, Nat.zero_le _, rfl, Below.refl _ _⟩
  case round =>
    obtain ⟨j, hj, rfl, hBl⟩ := hrel
    by_cases hlt : j < n
    · obtain ⟨p, hp⟩ : ∃ p, p = (h + j) % L := ⟨_, rfl⟩
      obtain ⟨x, hx⟩ : ∃ x, x = g p := ⟨_, rfl⟩
      have hpL : p < L := by rw [hp]; exact Nat.mod_lt _ (by omega)
      have hand : bits .and .i64 ((h : Int) + (j : Int)) ((L : Int) - 1) = (p : Int) := by rw [hp, ← Int.natCast_add]; exact ring_mod e (h + j) L HL.out e9 (by omega)
      have hw1 : IntKind.i64.wrap ((h : Int) + (j : Int)) = (h : Int) + (j : Int) := by rw [IntKind.wrap_i64]; omega
      have hw4 : IntKind.i64.wrap (1000 + (j : Int)) = 1000 + (j : Int) := by rw [IntKind.wrap_i64]; omega
      have hp0 : (0 : Int) ≤ (p : Int) := by omega
      have hp1 : (p : Int) < (L : Int) := by omega
      have d6 : wr.drew.cell? ⟨cb, 6, none⟩ = some (.int .i64 h) := (hBl.out.cell (p := ⟨cb, 6, none⟩) hcb).trans c6
      have d8 : wr.drew.cell? ⟨cb, 8, none⟩ = some (.slice (some ⟨bb, 0, none⟩) L L) := (hBl.out.cell (p := ⟨cb, 8, none⟩) hcb).trans c8
      have hB' : wr.drew.heap[bb]? = some (.cells (jobs g L).toArray 32) := (hBl.out.block bb hbb).trans HB.out
      have e0 : wr.drew.cell? ⟨bb, p * 2, none⟩ = some (.int .i64 x) := cell_at hB' (by rw [List.getElem?_toArray, jobs_get _ _ _ (by omega), jcell_even, hx])
      have e1 : wr.drew.cell? ⟨bb, p * 2 + 1, none⟩ = some (.pointer none) := cell_at hB' (by rw [List.getElem?_toArray, jobs_get _ _ _ (by omega), jcell_odd])
      have hsz := hBl.out.size
      have n1 : cb ≠ wr.heap.size := by omega
      have n2 : bb ≠ wr.heap.size := by omega
      have l1 : cb < wr.heap.size := by omega
      have l2 : bb < wr.heap.size := by omega
      have HA : Hid (∀ o, (wr.alloc o).drew.cell? ⟨cb, 6, none⟩ = some (.int .i64 h) ∧ (wr.alloc o).drew.cell? ⟨cb, 8, none⟩ = some (.slice (some ⟨bb, 0, none⟩) L L) ∧ (wr.alloc o).drew.cell? ⟨bb, p * 2, none⟩ = some (.int .i64 x) ∧ (wr.alloc o).drew.cell? ⟨bb, p * 2 + 1, none⟩ = some (.pointer none)) := by
        intro o
        have hb1 : Below wr.heap.size wr (wr.alloc o).drew := ((Below.refl wr.heap.size wr).alloc (Nat.le_refl _) o).drew
        exact ⟨(hb1.cell (p := ⟨cb, 6, none⟩) l1).trans d6, (hb1.cell (p := ⟨cb, 8, none⟩) l1).trans d8, (hb1.cell (p := ⟨bb, p * 2, none⟩) l2).trans e0, (hb1.cell (p := ⟨bb, p * 2 + 1, none⟩) l2).trans e1⟩
      have HX := hide hx
      have HP := hide hp
      have HSZ := hide hsz
      have hgood : ∃ Z : World, Z = (wr.alloc (.cells #[.int .i64 x, .pointer none] 32)).drew := ⟨_, rfl⟩
      obtain ⟨Z, hZ⟩ := hgood
      have hZb : Z.heap[wr.heap.size]? = some (.cells #[.int .i64 x, .pointer none] 32) := by
        rw [hZ]
        exact hp_alloc_eq _ _
      have z0 : Z.cell? ⟨wr.heap.size, 0, none⟩ = some (.int .i64 x) := cell_at hZb rfl
      have z1 : Z.cell? ⟨wr.heap.size, 1, none⟩ = some (.pointer none) := cell_at hZb rfl
      have hZB : Below w.heap.size w Z := by
        rw [hZ]
        exact (Below.alloc hBl.out hBl.out.size _).drew
      have HZ := hide hZ
      have HZB := hide hZB
      clear hx hp hB' hsz hZ hZb hZB
      go_upto_region 12 with fail
      refine wp_region_held_drew (S := fun w' => w'.cell? ⟨cb, 6, none⟩ = some (.int .i64 h) ∧ w'.cell? ⟨cb, 8, none⟩ = some (.slice (some ⟨bb, 0, none⟩) L L) ∧ w'.cell? ⟨bb, p * 2, none⟩ = some (.int .i64 x) ∧ w'.cell? ⟨bb, p * 2 + 1, none⟩ = some (.pointer none)) (by kernel_rfl) ?_ (fun hHeld => ?_)
      · exact ⟨d6, d8, e0, e1⟩
      refine wpAnyH_take (i := 0) (oi := { dst := some 47, op := Op.move (Operand.tmp 0), type := 96, pos := "zz_law_s5816c.go:18", after := #[], guard := none }) (v := ?_) rfl (by kernel_rfl) (by kernel_rfl) (by kernel_rfl) (fun _ _ _ h => h) (Or.inl ⟨by rfl, ?_⟩) hHeld ?_
      rotate_left
      · intro w hSw
        (try dsimp only at hSw)
        go_simp
        try with_reducible rfl
      try simp only [Act.put, List.setIfInBounds_toArray, List.set_cons_zero, List.set_cons_succ]
      refine wpAnyH_take (i := 1) (oi := { dst := some 48, op := Op.nilCheck (Operand.tmp 47), type := 0, pos := "zz_law_s5816c.go:18", after := #[{ on := 0, ground := Ground.data }], guard := none }) (v := ?_) rfl (by kernel_rfl) (by kernel_rfl) (by kernel_rfl) (fun _ _ _ h => h) (Or.inl ⟨by rfl, ?_⟩) hHeld ?_
      rotate_left
      · intro w hSw
        (try dsimp only at hSw)
        go_simp
        try with_reducible rfl
      try simp only [Act.put, List.setIfInBounds_toArray, List.set_cons_zero, List.set_cons_succ]
      refine wpAnyH_take (i := 2) (oi := { dst := some 49, op := Op.fieldAddr 29 (Operand.tmp 48) 2, type := 0, pos := "zz_law_s5816c.go:18", after := #[{ on := 1, ground := Ground.data }], guard := none }) (v := ?_) rfl (by kernel_rfl) (by kernel_rfl) (by kernel_rfl) (fun _ _ _ h => h) (Or.inl ⟨by rfl, ?_⟩) hHeld ?_
      rotate_left
      · intro w hSw
        (try dsimp only at hSw)
        go_simp
        try with_reducible rfl
      try simp only [Act.put, List.setIfInBounds_toArray, List.set_cons_zero, List.set_cons_succ]
      refine wpAnyH_take (i := 3) (oi := { dst := some 50, op := Op.load 27 (Operand.tmp 49), type := 27, pos := "zz_law_s5816c.go:18", after := #[{ on := 2, ground := Ground.data }], guard := none }) (v := ?_) rfl (by kernel_rfl) (by kernel_rfl) (by kernel_rfl) (fun _ _ _ h => h) (Or.inl ⟨by rfl, ?_⟩) hHeld ?_
      rotate_left
      · intro w hSw
        (try dsimp only at hSw)
        go_simp
        try with_reducible rfl
      try simp only [Act.put, List.setIfInBounds_toArray, List.set_cons_zero, List.set_cons_succ]
      refine wpAnyH_take (i := 4) (oi := { dst := some 51, op := Op.move (Operand.tmp 0), type := 96, pos := "zz_law_s5816c.go:18", after := #[], guard := none }) (v := ?_) rfl (by kernel_rfl) (by kernel_rfl) (by kernel_rfl) (fun _ _ _ h => h) (Or.inl ⟨by rfl, ?_⟩) hHeld ?_
      rotate_left
      · intro w hSw
        (try dsimp only at hSw)
        go_simp
        try with_reducible rfl
      try simp only [Act.put, List.setIfInBounds_toArray, List.set_cons_zero, List.set_cons_succ]
      refine wpAnyH_take (i := 5) (oi := { dst := some 52, op := Op.nilCheck (Operand.tmp 51), type := 0, pos := "zz_law_s5816c.go:18", after := #[{ on := 4, ground := Ground.data }], guard := none }) (v := ?_) rfl (by kernel_rfl) (by kernel_rfl) (by kernel_rfl) (fun _ _ _ h => h) (Or.inl ⟨by rfl, ?_⟩) hHeld ?_
      rotate_left
      · intro w hSw
        (try dsimp only at hSw)
        go_simp
        try with_reducible rfl
      try simp only [Act.put, List.setIfInBounds_toArray, List.set_cons_zero, List.set_cons_succ]
      refine wpAnyH_take (i := 6) (oi := { dst := some 53, op := Op.fieldAddr 29 (Operand.tmp 52) 0, type := 0, pos := "zz_law_s5816c.go:18", after := #[{ on := 5, ground := Ground.data }], guard := none }) (v := ?_) rfl (by kernel_rfl) (by kernel_rfl) (by kernel_rfl) (fun _ _ _ h => h) (Or.inl ⟨by rfl, ?_⟩) hHeld ?_
      rotate_left
      · intro w hSw
        (try dsimp only at hSw)
        go_simp
        try with_reducible rfl
      try simp only [Act.put, List.setIfInBounds_toArray, List.set_cons_zero, List.set_cons_succ]
      refine wpAnyH_take (i := 7) (oi := { dst := some 54, op := Op.load 3 (Operand.tmp 53), type := 3, pos := "zz_law_s5816c.go:18", after := #[{ on := 6, ground := Ground.data }], guard := none }) (v := ?_) rfl (by kernel_rfl) (by kernel_rfl) (by kernel_rfl) (fun _ _ _ h => h) (Or.inl ⟨by rfl, ?_⟩) hHeld ?_
      rotate_left
      · intro w hSw
        (try dsimp only at hSw)
        go_simp
        try with_reducible rfl
      try simp only [Act.put, List.setIfInBounds_toArray, List.set_cons_zero, List.set_cons_succ]
      refine wpAnyH_take (i := 8) (oi := { dst := some 55, op := Op.move (Operand.tmp 11), type := 3, pos := "zz_law_s5816c.go:18", after := #[], guard := none }) (v := ?_) rfl (by kernel_rfl) (by kernel_rfl) (by kernel_rfl) (fun _ _ _ h => h) (Or.inl ⟨by rfl, ?_⟩) hHeld ?_
      rotate_left
      · intro w hSw
        (try dsimp only at hSw)
        go_simp
        try with_reducible rfl
      try simp only [Act.put, List.setIfInBounds_toArray, List.set_cons_zero, List.set_cons_succ]
      refine wpAnyH_take (i := 9) (oi := { dst := some 56, op := Op.binOp BinOp.add 3 (Operand.tmp 54) (Operand.tmp 55) 3, type := 3, pos := "zz_law_s5816c.go:18", after := #[{ on := 7, ground := Ground.data }, { on := 8, ground := Ground.data }], guard := none }) (v := ?_) rfl (by kernel_rfl) (by kernel_rfl) (by kernel_rfl) (fun _ _ _ h => h) (Or.inl ⟨by rfl, ?_⟩) hHeld ?_
      rotate_left
      · intro w hSw
        (try dsimp only at hSw)
        go_simp
        try with_reducible rfl
      try simp only [Act.put, List.setIfInBounds_toArray, List.set_cons_zero, List.set_cons_succ]
      refine wpAnyH_take (i := 10) (oi := { dst := some 57, op := Op.move (Operand.tmp 10), type := 3, pos := "zz_law_s5816c.go:18", after := #[], guard := none }) (v := ?_) rfl (by kernel_rfl) (by kernel_rfl) (by kernel_rfl) (fun _ _ _ h => h) (Or.inl ⟨by rfl, ?_⟩) hHeld ?_
      rotate_left
      · intro w hSw
        (try dsimp only at hSw)
        go_simp
        try with_reducible rfl
      try simp only [Act.put, List.setIfInBounds_toArray, List.set_cons_zero, List.set_cons_succ]
      refine wpAnyH_take (i := 11) (oi := { dst := some 58, op := Op.binOp BinOp.sub 3 (Operand.tmp 57) (Operand.const (Value.int IntKind.i64 1)) 3, type := 3, pos := "zz_law_s5816c.go:18", after := #[{ on := 10, ground := Ground.data }], guard := none }) (v := ?_) rfl (by kernel_rfl) (by kernel_rfl) (by kernel_rfl) (fun _ _ _ h => h) (Or.inl ⟨by rfl, ?_⟩) hHeld ?_
      rotate_left
      · intro w hSw
        (try dsimp only at hSw)
        go_simp
        try with_reducible rfl
      try simp only [Act.put, List.setIfInBounds_toArray, List.set_cons_zero, List.set_cons_succ]
      refine wpAnyH_take (i := 12) (oi := { dst := some 59, op := Op.binOp BinOp.and 3 (Operand.tmp 56) (Operand.tmp 58) 3, type := 3, pos := "zz_law_s5816c.go:18", after := #[{ on := 9, ground := Ground.data }, { on := 11, ground := Ground.data }], guard := none }) (v := ?_) rfl (by kernel_rfl) (by kernel_rfl) (by kernel_rfl) (fun _ _ _ h => h) (Or.inl ⟨by rfl, ?_⟩) hHeld ?_
      rotate_left
      · intro w hSw
        (try dsimp only at hSw)
        go_simp
        try with_reducible rfl
      try simp only [Act.put, List.setIfInBounds_toArray, List.set_cons_zero, List.set_cons_succ]
      refine wpAnyH_take (i := 13) (oi := { dst := some 60, op := Op.indexAddr 27 (Operand.tmp 50) (Operand.tmp 59), type := 0, pos := "zz_law_s5816c.go:18", after := #[{ on := 3, ground := Ground.data }, { on := 12, ground := Ground.data }], guard := none }) (v := ?_) rfl (by kernel_rfl) (by kernel_rfl) (by kernel_rfl) (fun _ _ _ h => h) (Or.inl ⟨by rfl, ?_⟩) hHeld ?_
      rotate_left
      · intro w hSw
        (try dsimp only at hSw)
        go_simp
        try with_reducible rfl
      try simp only [Act.put, List.setIfInBounds_toArray, List.set_cons_zero, List.set_cons_succ]
      refine wpAnyH_take (i := 14) (oi := { dst := some 61, op := Op.load 32 (Operand.tmp 60), type := 32, pos := "zz_law_s5816c.go:18", after := #[{ on := 13, ground := Ground.data }], guard := none }) (v := ?_) rfl (by kernel_rfl) (by kernel_rfl) (by kernel_rfl) (fun _ _ _ h => h) (Or.inl ⟨by rfl, ?_⟩) hHeld ?_
      rotate_left
      · intro w hSw
        (try dsimp only at hSw)
        go_simp
        try with_reducible rfl
      try simp only [Act.put, List.setIfInBounds_toArray, List.set_cons_zero, List.set_cons_succ]
      refine wpAnyH_ready (rs := [15]) (by kernel_rfl) (by simp) ?_
      refine AllReadyH.cons (o := { dst := some 12, op := Op.alloc 32, type := 0, pos := "zz_law_s5816c.go:18", after := #[], guard := none }) rfl (fun K hK => ?_) AllReadyH.nil
      go_simp
      refine hK.out _ _ ?_ (fun hHeld => ?_)
      · exact HA.out _
      clear hK K
      try simp only [Act.put, List.setIfInBounds_toArray, List.set_cons_zero, List.set_cons_succ]
      refine wpAnyH_ready (rs := [16]) (by kernel_rfl) (by simp) ?_
      refine AllReadyH.cons (o := { dst := none, op := Op.store 32 (Operand.tmp 12) (Operand.tmp 61), type := 0, pos := "zz_law_s5816c.go:18", after := #[{ on := 15, ground := Ground.data }, { on := 14, ground := Ground.data }, { on := 0, ground := Ground.phase }, { on := 1, ground := Ground.phase }, { on := 2, ground := Ground.phase }, { on := 3, ground := Ground.phase }, { on := 4, ground := Ground.phase }, { on := 5, ground := Ground.phase }, { on := 6, ground := Ground.phase }, { on := 7, ground := Ground.phase }, { on := 8, ground := Ground.phase }, { on := 9, ground := Ground.phase }, { on := 10, ground := Ground.phase }, { on := 11, ground := Ground.phase }, { on := 12, ground := Ground.phase }, { on := 13, ground := Ground.phase }, { on := 14, ground := Ground.phase }, { on := 15, ground := Ground.phase }], guard := none }) rfl (fun K hK => ?_) AllReadyH.nil
      go_simp
      refine hK.out _ _ ?_ (fun hHeld => ?_)
      · exact HA.out _
      clear hK K
      try simp only [Act.put]
      refine wpAnyH_done (by kernel_rfl) ?_ _
      rw [← HZ.out]
      by_cases hjk : j < k
      · have hxx : (x != 1000 + (j : Int)) = false := by
          have := HG.out.1 j hjk
          rw [← HP.out, ← HX.out] at this
          simp [this]
        have hjk' : (j : Int) < (k : Int) := by omega
        go_wp2_with fail
        go_roundw
        case rel => exact ⟨j + 1, by omega, by go_num, HZB⟩
        case measure => simp [intOf]; omega
      · have hjk' : ¬ (j : Int) < (k : Int) := by omega
        have hjj : j = k := by have := HN.out; omega
        have hxx : (x != t) = false := by
          have := HG.out.2 rfl
          rw [← hjj, ← HP.out, ← HX.out] at this
          simp [this]
        clear hjj
        go_wp2_with fail
        go_roundw
        case rel => exact ⟨j + 1, by omega, by go_num, HZB⟩
        case measure => simp [intOf]; omega
    · have hlt' : ¬ (j : Int) < (n : Int) := by omega
      go_wp2_with fail
      go_ret
      exact ⟨rfl, hBl.out⟩

set_option maxRecDepth 100000 in
set_option maxHeartbeats 1600000 in
theorem ready_not (cb bb L h k n : Nat) (g : Nat → Int) (t : Int) (w : World) (hk : k ≤ 255) (hn : n = k) (hn0 : 0 < n) (r : Row L h n) (hG : Holds L h k g t false) (hcb : cb < w.heap.size)
    (c6 : w.cell? ⟨cb, 6, none⟩ = some (.int .i64 h)) (c7 : w.cell? ⟨cb, 7, none⟩ = some (.int .i64 n)) (c8 : w.cell? ⟨cb, 8, none⟩ = some (.slice (some ⟨bb, 0, none⟩) L L)) (hB : w.heap[bb]? = some (.cells (jobs g L).toArray 32)) :
    Calls Yba.prog 9 #[.pointer (some ⟨cb, 6, none⟩), .int .i64 k, .int .i64 t, .bool false] w fun e w' => e = .returned (.bool true) ∧ Below w.heap.size w w' := by
  have hle := r.le
  obtain ⟨hL9, hhL, hnL⟩ := hle
  have hbb := lt_of_block hB
  obtain ⟨e, e3, e9, hL, hh⟩ : ∃ e, 3 ≤ e ∧ e ≤ 9 ∧ L = 2 ^ e ∧ h < L := by
    rcases r with ⟨_, _, hx⟩ | ⟨e, e3, e9, hL, hh, _⟩
    · omega
    · exact ⟨e, e3, e9, hL, hh⟩
  have hbit : (bits .and .i64 (L : Int) ((L : Int) - 1) != 0) = false := by
    rw [ring_mod e L L hL e9 (by omega), Nat.mod_self]
    rfl
  have hw2 : IntKind.i64.wrap ((L : Int) - 1) = (L : Int) - 1 := by rw [IntKind.wrap_i64]; omega
  have hLn : ¬ ((L : Int) < (n : Int)) := by omega
  have hn1 : (0 : Int) < (n : Int) := by omega
  have HB := hide hB
  have HG := hide hG
  have HL := hide hL
  clear hB hG r hL
  have hnn : (((n : Int) != (k : Int)) = false) := by simp; omega
  skip
  go_enter Yba.func9, Yba.ntmps9
  go_upto_region 4 with fail
  have hnk : (k : Int) = (n : Int) := by omega
  rw [hnk]
  clear hnn
  have hnn : ((n : Int) != (n : Int)) = false := by simp
  have HN := hide hn
  have HNK := hide hnk
  clear hn hnk
  go_wp2_with fail
  go_loopw [11] (fun i wr => ∃ j : Nat, j ≤ n ∧ i = .int .i64 j ∧ Hid (Below w.heap.size w wr)) (fun i _ => n - (intOf i).toNat)
  case atStart => exact ⟨0, Nat.zero_le _, rfl, Below.refl _ _⟩
  case round =>
    obtain ⟨j, hj, rfl, hBl⟩ := hrel
    by_cases hlt : j < n
    · obtain ⟨p, hp⟩ : ∃ p, p = (h + j) % L := ⟨_, rfl⟩
      obtain ⟨x, hx⟩ : ∃ x, x = g p := ⟨_, rfl⟩
      have hpL : p < L := by rw [hp]; exact Nat.mod_lt _ (by omega)
      have hand : bits .and .i64 ((h : Int) + (j : Int)) ((L : Int) - 1) = (p : Int) := by rw [hp, ← Int.natCast_add]; exact ring_mod e (h + j) L HL.out e9 (by omega)
      have hw1 : IntKind.i64.wrap ((h : Int) + (j : Int)) = (h : Int) + (j : Int) := by rw [IntKind.wrap_i64]; omega
      have hw4 : IntKind.i64.wrap (1000 + (j : Int)) = 1000 + (j : Int) := by rw [IntKind.wrap_i64]; omega
      have hp0 : (0 : Int) ≤ (p : Int) := by omega
      have hp1 : (p : Int) < (L : Int) := by omega
      have d6 : wr.drew.cell? ⟨cb, 6, none⟩ = some (.int .i64 h) := (hBl.out.cell (p := ⟨cb, 6, none⟩) hcb).trans c6
      have d8 : wr.drew.cell? ⟨cb, 8, none⟩ = some (.slice (some ⟨bb, 0, none⟩) L L) := (hBl.out.cell (p := ⟨cb, 8, none⟩) hcb).trans c8
      have hB' : wr.drew.heap[bb]? = some (.cells (jobs g L).toArray 32) := (hBl.out.block bb hbb).trans HB.out
      have e0 : wr.drew.cell? ⟨bb, p * 2, none⟩ = some (.int .i64 x) := cell_at hB' (by rw [List.getElem?_toArray, jobs_get _ _ _ (by omega), jcell_even, hx])
      have e1 : wr.drew.cell? ⟨bb, p * 2 + 1, none⟩ = some (.pointer none) := cell_at hB' (by rw [List.getElem?_toArray, jobs_get _ _ _ (by omega), jcell_odd])
      have hsz := hBl.out.size
      have n1 : cb ≠ wr.heap.size := by omega
      have n2 : bb ≠ wr.heap.size := by omega
      have l1 : cb < wr.heap.size := by omega
      have l2 : bb < wr.heap.size := by omega
      have HA : Hid (∀ o, (wr.alloc o).drew.cell? ⟨cb, 6, none⟩ = some (.int .i64 h) ∧ (wr.alloc o).drew.cell? ⟨cb, 8, none⟩ = some (.slice (some ⟨bb, 0, none⟩) L L) ∧ (wr.alloc o).drew.cell? ⟨bb, p * 2, none⟩ = some (.int .i64 x) ∧ (wr.alloc o).drew.cell? ⟨bb, p * 2 + 1, none⟩ = some (.pointer none)) := by
        intro o
        have hb1 : Below wr.heap.size wr (wr.alloc o).drew := ((Below.refl wr.heap.size wr).alloc (Nat.le_refl _) o).drew
        exact ⟨(hb1.cell (p := ⟨cb, 6, none⟩) l1).trans d6, (hb1.cell (p := ⟨cb, 8, none⟩) l1).trans d8, (hb1.cell (p := ⟨bb, p * 2, none⟩) l2).trans e0, (hb1.cell (p := ⟨bb, p * 2 + 1, none⟩) l2).trans e1⟩
      have HX := hide hx
      have HP := hide hp
      have HSZ := hide hsz
      have hgood : ∃ Z : World, Z = (wr.alloc (.cells #[.int .i64 x, .pointer none] 32)).drew := ⟨_, rfl⟩
      obtain ⟨Z, hZ⟩ := hgood
      have hZb : Z.heap[wr.heap.size]? = some (.cells #[.int .i64 x, .pointer none] 32) := by
        rw [hZ]
        exact hp_alloc_eq _ _
      have z0 : Z.cell? ⟨wr.heap.size, 0, none⟩ = some (.int .i64 x) := cell_at hZb rfl
      have z1 : Z.cell? ⟨wr.heap.size, 1, none⟩ = some (.pointer none) := cell_at hZb rfl
      have hZB : Below w.heap.size w Z := by
        rw [hZ]
        exact (Below.alloc hBl.out hBl.out.size _).drew
      have HZ := hide hZ
      have HZB := hide hZB
      clear hx hp hB' hsz hZ hZb hZB
      go_upto_region 12 with fail
      refine wp_region_held_drew (S := fun w' => w'.cell? ⟨cb, 6, none⟩ = some (.int .i64 h) ∧ w'.cell? ⟨cb, 8, none⟩ = some (.slice (some ⟨bb, 0, none⟩) L L) ∧ w'.cell? ⟨bb, p * 2, none⟩ = some (.int .i64 x) ∧ w'.cell? ⟨bb, p * 2 + 1, none⟩ = some (.pointer none)) (by kernel_rfl) ?_ (fun hHeld => ?_)
      · exact ⟨d6, d8, e0, e1⟩
      refine wpAnyH_take (i := 0) (oi := { dst := some 47, op := Op.move (Operand.tmp 0), type := 96, pos := "zz_law_s5816c.go:18", after := #[], guard := none }) (v := ?_) rfl (by kernel_rfl) (by kernel_rfl) (by kernel_rfl) (fun _ _ _ h => h) (Or.inl ⟨by rfl, ?_⟩) hHeld ?_
      rotate_left
      · intro w hSw
        (try dsimp only at hSw)
        go_simp
        try with_reducible rfl
      try simp only [Act.put, List.setIfInBounds_toArray, List.set_cons_zero, List.set_cons_succ]
      refine wpAnyH_take (i := 1) (oi := { dst := some 48, op := Op.nilCheck (Operand.tmp 47), type := 0, pos := "zz_law_s5816c.go:18", after := #[{ on := 0, ground := Ground.data }], guard := none }) (v := ?_) rfl (by kernel_rfl) (by kernel_rfl) (by kernel_rfl) (fun _ _ _ h => h) (Or.inl ⟨by rfl, ?_⟩) hHeld ?_
      rotate_left
      · intro w hSw
        (try dsimp only at hSw)
        go_simp
        try with_reducible rfl
      try simp only [Act.put, List.setIfInBounds_toArray, List.set_cons_zero, List.set_cons_succ]
      refine wpAnyH_take (i := 2) (oi := { dst := some 49, op := Op.fieldAddr 29 (Operand.tmp 48) 2, type := 0, pos := "zz_law_s5816c.go:18", after := #[{ on := 1, ground := Ground.data }], guard := none }) (v := ?_) rfl (by kernel_rfl) (by kernel_rfl) (by kernel_rfl) (fun _ _ _ h => h) (Or.inl ⟨by rfl, ?_⟩) hHeld ?_
      rotate_left
      · intro w hSw
        (try dsimp only at hSw)
        go_simp
        try with_reducible rfl
      try simp only [Act.put, List.setIfInBounds_toArray, List.set_cons_zero, List.set_cons_succ]
      refine wpAnyH_take (i := 3) (oi := { dst := some 50, op := Op.load 27 (Operand.tmp 49), type := 27, pos := "zz_law_s5816c.go:18", after := #[{ on := 2, ground := Ground.data }], guard := none }) (v := ?_) rfl (by kernel_rfl) (by kernel_rfl) (by kernel_rfl) (fun _ _ _ h => h) (Or.inl ⟨by rfl, ?_⟩) hHeld ?_
      rotate_left
      · intro w hSw
        (try dsimp only at hSw)
        go_simp
        try with_reducible rfl
      try simp only [Act.put, List.setIfInBounds_toArray, List.set_cons_zero, List.set_cons_succ]
      refine wpAnyH_take (i := 4) (oi := { dst := some 51, op := Op.move (Operand.tmp 0), type := 96, pos := "zz_law_s5816c.go:18", after := #[], guard := none }) (v := ?_) rfl (by kernel_rfl) (by kernel_rfl) (by kernel_rfl) (fun _ _ _ h => h) (Or.inl ⟨by rfl, ?_⟩) hHeld ?_
      rotate_left
      · intro w hSw
        (try dsimp only at hSw)
        go_simp
        try with_reducible rfl
      try simp only [Act.put, List.setIfInBounds_toArray, List.set_cons_zero, List.set_cons_succ]
      refine wpAnyH_take (i := 5) (oi := { dst := some 52, op := Op.nilCheck (Operand.tmp 51), type := 0, pos := "zz_law_s5816c.go:18", after := #[{ on := 4, ground := Ground.data }], guard := none }) (v := ?_) rfl (by kernel_rfl) (by kernel_rfl) (by kernel_rfl) (fun _ _ _ h => h) (Or.inl ⟨by rfl, ?_⟩) hHeld ?_
      rotate_left
      · intro w hSw
        (try dsimp only at hSw)
        go_simp
        try with_reducible rfl
      try simp only [Act.put, List.setIfInBounds_toArray, List.set_cons_zero, List.set_cons_succ]
      refine wpAnyH_take (i := 6) (oi := { dst := some 53, op := Op.fieldAddr 29 (Operand.tmp 52) 0, type := 0, pos := "zz_law_s5816c.go:18", after := #[{ on := 5, ground := Ground.data }], guard := none }) (v := ?_) rfl (by kernel_rfl) (by kernel_rfl) (by kernel_rfl) (fun _ _ _ h => h) (Or.inl ⟨by rfl, ?_⟩) hHeld ?_
      rotate_left
      · intro w hSw
        (try dsimp only at hSw)
        go_simp
        try with_reducible rfl
      try simp only [Act.put, List.setIfInBounds_toArray, List.set_cons_zero, List.set_cons_succ]
      refine wpAnyH_take (i := 7) (oi := { dst := some 54, op := Op.load 3 (Operand.tmp 53), type := 3, pos := "zz_law_s5816c.go:18", after := #[{ on := 6, ground := Ground.data }], guard := none }) (v := ?_) rfl (by kernel_rfl) (by kernel_rfl) (by kernel_rfl) (fun _ _ _ h => h) (Or.inl ⟨by rfl, ?_⟩) hHeld ?_
      rotate_left
      · intro w hSw
        (try dsimp only at hSw)
        go_simp
        try with_reducible rfl
      try simp only [Act.put, List.setIfInBounds_toArray, List.set_cons_zero, List.set_cons_succ]
      refine wpAnyH_take (i := 8) (oi := { dst := some 55, op := Op.move (Operand.tmp 11), type := 3, pos := "zz_law_s5816c.go:18", after := #[], guard := none }) (v := ?_) rfl (by kernel_rfl) (by kernel_rfl) (by kernel_rfl) (fun _ _ _ h => h) (Or.inl ⟨by rfl, ?_⟩) hHeld ?_
      rotate_left
      · intro w hSw
        (try dsimp only at hSw)
        go_simp
        try with_reducible rfl
      try simp only [Act.put, List.setIfInBounds_toArray, List.set_cons_zero, List.set_cons_succ]
      refine wpAnyH_take (i := 9) (oi := { dst := some 56, op := Op.binOp BinOp.add 3 (Operand.tmp 54) (Operand.tmp 55) 3, type := 3, pos := "zz_law_s5816c.go:18", after := #[{ on := 7, ground := Ground.data }, { on := 8, ground := Ground.data }], guard := none }) (v := ?_) rfl (by kernel_rfl) (by kernel_rfl) (by kernel_rfl) (fun _ _ _ h => h) (Or.inl ⟨by rfl, ?_⟩) hHeld ?_
      rotate_left
      · intro w hSw
        (try dsimp only at hSw)
        go_simp
        try with_reducible rfl
      try simp only [Act.put, List.setIfInBounds_toArray, List.set_cons_zero, List.set_cons_succ]
      refine wpAnyH_take (i := 10) (oi := { dst := some 57, op := Op.move (Operand.tmp 10), type := 3, pos := "zz_law_s5816c.go:18", after := #[], guard := none }) (v := ?_) rfl (by kernel_rfl) (by kernel_rfl) (by kernel_rfl) (fun _ _ _ h => h) (Or.inl ⟨by rfl, ?_⟩) hHeld ?_
      rotate_left
      · intro w hSw
        (try dsimp only at hSw)
        go_simp
        try with_reducible rfl
      try simp only [Act.put, List.setIfInBounds_toArray, List.set_cons_zero, List.set_cons_succ]
      refine wpAnyH_take (i := 11) (oi := { dst := some 58, op := Op.binOp BinOp.sub 3 (Operand.tmp 57) (Operand.const (Value.int IntKind.i64 1)) 3, type := 3, pos := "zz_law_s5816c.go:18", after := #[{ on := 10, ground := Ground.data }], guard := none }) (v := ?_) rfl (by kernel_rfl) (by kernel_rfl) (by kernel_rfl) (fun _ _ _ h => h) (Or.inl ⟨by rfl, ?_⟩) hHeld ?_
      rotate_left
      · intro w hSw
        (try dsimp only at hSw)
        go_simp
        try with_reducible rfl
      try simp only [Act.put, List.setIfInBounds_toArray, List.set_cons_zero, List.set_cons_succ]
      refine wpAnyH_take (i := 12) (oi := { dst := some 59, op := Op.binOp BinOp.and 3 (Operand.tmp 56) (Operand.tmp 58) 3, type := 3, pos := "zz_law_s5816c.go:18", after := #[{ on := 9, ground := Ground.data }, { on := 11, ground := Ground.data }], guard := none }) (v := ?_) rfl (by kernel_rfl) (by kernel_rfl) (by kernel_rfl) (fun _ _ _ h => h) (Or.inl ⟨by rfl, ?_⟩) hHeld ?_
      rotate_left
      · intro w hSw
        (try dsimp only at hSw)
        go_simp
        try with_reducible rfl
      try simp only [Act.put, List.setIfInBounds_toArray, List.set_cons_zero, List.set_cons_succ]
      refine wpAnyH_take (i := 13) (oi := { dst := some 60, op := Op.indexAddr 27 (Operand.tmp 50) (Operand.tmp 59), type := 0, pos := "zz_law_s5816c.go:18", after := #[{ on := 3, ground := Ground.data }, { on := 12, ground := Ground.data }], guard := none }) (v := ?_) rfl (by kernel_rfl) (by kernel_rfl) (by kernel_rfl) (fun _ _ _ h => h) (Or.inl ⟨by rfl, ?_⟩) hHeld ?_
      rotate_left
      · intro w hSw
        (try dsimp only at hSw)
        go_simp
        try with_reducible rfl
      try simp only [Act.put, List.setIfInBounds_toArray, List.set_cons_zero, List.set_cons_succ]
      refine wpAnyH_take (i := 14) (oi := { dst := some 61, op := Op.load 32 (Operand.tmp 60), type := 32, pos := "zz_law_s5816c.go:18", after := #[{ on := 13, ground := Ground.data }], guard := none }) (v := ?_) rfl (by kernel_rfl) (by kernel_rfl) (by kernel_rfl) (fun _ _ _ h => h) (Or.inl ⟨by rfl, ?_⟩) hHeld ?_
      rotate_left
      · intro w hSw
        (try dsimp only at hSw)
        go_simp
        try with_reducible rfl
      try simp only [Act.put, List.setIfInBounds_toArray, List.set_cons_zero, List.set_cons_succ]
      refine wpAnyH_ready (rs := [15]) (by kernel_rfl) (by simp) ?_
      refine AllReadyH.cons (o := { dst := some 12, op := Op.alloc 32, type := 0, pos := "zz_law_s5816c.go:18", after := #[], guard := none }) rfl (fun K hK => ?_) AllReadyH.nil
      go_simp
      refine hK.out _ _ ?_ (fun hHeld => ?_)
      · exact HA.out _
      clear hK K
      try simp only [Act.put, List.setIfInBounds_toArray, List.set_cons_zero, List.set_cons_succ]
      refine wpAnyH_ready (rs := [16]) (by kernel_rfl) (by simp) ?_
      refine AllReadyH.cons (o := { dst := none, op := Op.store 32 (Operand.tmp 12) (Operand.tmp 61), type := 0, pos := "zz_law_s5816c.go:18", after := #[{ on := 15, ground := Ground.data }, { on := 14, ground := Ground.data }, { on := 0, ground := Ground.phase }, { on := 1, ground := Ground.phase }, { on := 2, ground := Ground.phase }, { on := 3, ground := Ground.phase }, { on := 4, ground := Ground.phase }, { on := 5, ground := Ground.phase }, { on := 6, ground := Ground.phase }, { on := 7, ground := Ground.phase }, { on := 8, ground := Ground.phase }, { on := 9, ground := Ground.phase }, { on := 10, ground := Ground.phase }, { on := 11, ground := Ground.phase }, { on := 12, ground := Ground.phase }, { on := 13, ground := Ground.phase }, { on := 14, ground := Ground.phase }, { on := 15, ground := Ground.phase }], guard := none }) rfl (fun K hK => ?_) AllReadyH.nil
      go_simp
      refine hK.out _ _ ?_ (fun hHeld => ?_)
      · exact HA.out _
      clear hK K
      try simp only [Act.put]
      refine wpAnyH_done (by kernel_rfl) ?_ _
      rw [← HZ.out]
      by_cases hjk : j < k
      · have hxx : (x != 1000 + (j : Int)) = false := by
          have := HG.out.1 j hjk
          rw [← HP.out, ← HX.out] at this
          simp [this]
        have hjk' : (j : Int) < (k : Int) := by omega
        go_wp2_with fail
        go_roundw
        case rel => exact ⟨j + 1, by omega, by go_num, HZB⟩
        case measure => simp [intOf]; omega
      · exact absurd (HN.out ▸ hlt) hjk
    · have hlt' : ¬ (j : Int) < (n : Int) := by omega
      go_wp2_with fail
      go_ret
      exact ⟨rfl, hBl.out⟩

end Go.Proofs.Ybulkdpks
