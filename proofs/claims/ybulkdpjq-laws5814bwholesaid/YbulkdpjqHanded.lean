/-
  (*store).handedOn: its answer in each case; whole-block laws for long rows.
-/
import Derived.Test.YbulkdpjqRows
import Derived.WalkKit
import Derived.ProofKit
import Derived.OpenShut
import Derived.WalkLawsBesides
import Derived.BigQuiet
import Derived.Laws.BitsAllLaws
import Derived.Laws.StructEq
import Derived.Outline
import Derived.Test.YbulkdpjqHeap
import Derived.Test.YbulkdpjqRec
import Derived.Deep.RegionWith
import Derived.Deep.RegionHeld3
import Derived.Deep.DeepCutAuto
import Derived.Deep.DrawnRows
namespace Go.Proofs.Ybulkdpjq
open Go.ChangeShapes Go.WideShapes Go.ChangeAt Go.RowKit
open Go.ChangeMaps (setBlock)
set_option linter.unusedVariables false

/-- A whole row that lies at the head of a block, read in a region's quiet walk. -/
theorem quiet_load_row {P : Program} {o : Oper} {a : Act} {C : World → Prop} {next : Act → Prop} (ty : TypeId) (x : Operand) (ho : o.op = .load ty x) (b : Nat) (hx : a.eval x = .pointer (some ⟨b, 0, none⟩))
    (cs : List Value) (d : TypeDesc) (hC : ∀ w, C w → w.rangeAt b 0 cs) (hu : P.underlying ty = some d) (hd : d.isRow = true) (hi : (P.info? ty).map (·.size) = some cs.length)
    (h : next (a.put o.dst (.agg cs.toArray))) : o.quiet P a C next := by
  refine ⟨.agg cs.toArray, fun w hw => ?_, h⟩
  unfold Oper.quietAt execOp
  simp only [ho, hx, Instr.loadAt, Instr.sureAddr, Sem.run_bind, Sem.run_pure, Result.andThen_ok, run_loadVar_mid w b 0 ty cs d (hC w hw) hu hd hi]
  exact ⟨rfl, rfl⟩

theorem range_block {w : World} {b : Nat} {C : Array Value} {t : TypeId} {f : Nat × Nat} (h : w.heap[b]? = some (.cells C t f)) : w.rangeAt b 0 C.toList := fun j v hv => by
  rw [Nat.zero_add]
  exact cell_at h (by simpa using hv)

theorem quiet_plus {P : Program} {f : FuncId} {args : Array Value} {W : World} {n x : Nat} {v : Value}
    (h : Calls P f args (W.drewN (n + x)) fun e w' => e = .returned v ∧ ∃ m, w' = (W.drewN (n + x)).drewN m) : Calls P f args (W.drewN (n + x)) fun e w' => e = .returned v ∧ ∃ m, w' = W.drewN (n + m) :=
  h.mono fun _ _ ⟨h1, m, h2⟩ => ⟨h1, x + m, by rw [h2, World.drewN_drewN, Nat.add_assoc]⟩

/-- The world behind handedOn's two boxes. -/
abbrev HW (w : World) (k a : Int) : World := (w.alloc (.cells (idC k) 30)).alloc (.cells #[.int .u64 (a % 1000000000), .int .i64 (a / 1000000000), .pointer none] 40)

theorem HW.id (w : World) (k a : Int) : ∀ w', (∃ n, w' = (HW w k a).drewN n) → w'.rangeAt w.heap.size 0 (idC k).toList := by
  rintro w' ⟨n, rfl⟩
  refine range_block (t := 30) (f := (0, 0)) ?_
  show (World.alloc _ _).heap[w.heap.size]? = _
  rw [hp_alloc_lt (by simp), hp_alloc_eq]

theorem info30 : (Yba.prog.info? 30).map (·.size) = some 32 := by kernel_rfl

theorem HW.below (w : World) (k a : Int) : Below w.heap.size w (HW w k a) := ((Below.refl _ _).alloc (Nat.le_refl _) _).alloc (by simp) _

set_option maxRecDepth 100000 in
set_option maxHeartbeats 800000 in
theorem ho_none (sb rb mb : Nat) (t : ByteArray) (k a : Int) (few : Bool) (w : World) (hs : sb < w.heap.size) (hr : rb < w.heap.size) (s0 : w.cell? ⟨sb, 0, none⟩ = some (.map (some mb))) (r0 : w.cell? ⟨rb, 0, none⟩ = some (.string t))
    (hlook : ∀ n, (Instr.lookup 43 (.map (some mb)) (.agg (KC t k)) true).run Yba.prog ((HW w k a).drewN n) = .ok (.tuple #[.pointer none, .bool false]) ((HW w k a).drewN n)) :
    Calls Yba.prog 7 #[.pointer (some ⟨sb, 0, none⟩), .agg (idC k), .pointer (some ⟨rb, 0, none⟩), .bool few, AT a] w fun e w' => e = .returned (.bool false) ∧ Below w.heap.size w w' := by
  have b1 : sb < w.heap.size + 1 := by omega
  have b2 : rb < w.heap.size + 1 := by omega
  unfold AT
  go_enter Yba.func7, Yba.ntmps7
  go_wp2_with fail
  refine wp_region_quiet_lit (by kernel_rfl) (by kernel_rfl) ?_
  iterate 8 (go_big_quiet_step (fail))
  go_big_quiet_want
  refine quiet_load_row 30 (.tmp 6) rfl w.heap.size rfl (idC k).toList _ (HW.id w k a) Yba.underlying30 rfl info30 ?_
  simp only [Act.put, List.setIfInBounds_toArray, List.set_cons_succ, List.set_cons_zero]
  go_big_quiet_on
  repeat (go_big_quiet_step (fail))
  refine wpQuiet_nil ?_
  intro _ hw'
  obtain ⟨nq, hw''⟩ := hw'
  subst hw''
  rename Nat => n1
  go_wp2_with fail
  go_quiet (fail)
  go_wp2
  go_ret
  exact ⟨rfl, below_drewN (below_drewN (HW.below w k a) _) _⟩

set_option maxRecDepth 100000 in
set_option maxHeartbeats 800000 in
theorem ho_nohand (sb rb mb eb : Nat) (t : ByteArray) (k a : Int) (few : Bool) (w : World) (hs : sb < w.heap.size) (hr : rb < w.heap.size) (s0 : w.cell? ⟨sb, 0, none⟩ = some (.map (some mb))) (r0 : w.cell? ⟨rb, 0, none⟩ = some (.string t))
    (hlook : ∀ n, (Instr.lookup 43 (.map (some mb)) (.agg (KC t k)) true).run Yba.prog ((HW w k a).drewN n) = .ok (.tuple #[.pointer (some ⟨eb, 0, none⟩), .bool true]) ((HW w k a).drewN n))
    (he : eb < w.heap.size) (e34 : w.cell? ⟨eb, 34, none⟩ = some (.pointer none)) :
    Calls Yba.prog 7 #[.pointer (some ⟨sb, 0, none⟩), .agg (idC k), .pointer (some ⟨rb, 0, none⟩), .bool few, AT a] w fun e w' => e = .returned (.bool false) ∧ Below w.heap.size w w' := by
  have b1 : sb < w.heap.size + 1 := by omega
  have b2 : rb < w.heap.size + 1 := by omega
  have b3 : eb < w.heap.size + 1 := by omega
  unfold AT
  go_enter Yba.func7, Yba.ntmps7
  go_wp2_with fail
  refine wp_region_quiet_lit (by kernel_rfl) (by kernel_rfl) ?_
  iterate 8 (go_big_quiet_step (fail))
  go_big_quiet_want
  refine quiet_load_row 30 (.tmp 6) rfl w.heap.size rfl (idC k).toList _ (HW.id w k a) Yba.underlying30 rfl info30 ?_
  simp only [Act.put, List.setIfInBounds_toArray, List.set_cons_succ, List.set_cons_zero]
  go_big_quiet_on
  repeat (go_big_quiet_step (fail))
  refine wpQuiet_nil ?_
  intro _ hw'
  obtain ⟨nq, hw''⟩ := hw'
  subst hw''
  rename Nat => n1
  go_wp2_with fail
  go_quiet (fail)
  go_wp2
  go_ret
  exact ⟨rfl, below_drewN (below_drewN (HW.below w k a) _) _⟩

set_option maxRecDepth 100000 in
set_option maxHeartbeats 800000 in
theorem ho_diff (sb rb mb eb hb : Nat) (t : ByteArray) (k a : Int) (few : Bool) (w : World) (hs : sb < w.heap.size) (hr : rb < w.heap.size) (s0 : w.cell? ⟨sb, 0, none⟩ = some (.map (some mb))) (r0 : w.cell? ⟨rb, 0, none⟩ = some (.string t))
    (hlook : ∀ n, (Instr.lookup 43 (.map (some mb)) (.agg (KC t k)) true).run Yba.prog ((HW w k a).drewN n) = .ok (.tuple #[.pointer (some ⟨eb, 0, none⟩), .bool true]) ((HW w k a).drewN n))
    (he : eb < w.heap.size) (e34 : w.cell? ⟨eb, 34, none⟩ = some (.pointer (some ⟨hb, 0, none⟩))) (hsame : Hid (∀ n, Calls Yba.prog 15 #[.pointer (some ⟨rb, 0, none⟩), .pointer (some ⟨hb, 0, none⟩)] ((HW w k a).drewN n) fun e w' => e = .returned (.bool false) ∧ ∃ m, w' = ((HW w k a).drewN n).drewN m)) :
    Calls Yba.prog 7 #[.pointer (some ⟨sb, 0, none⟩), .agg (idC k), .pointer (some ⟨rb, 0, none⟩), .bool few, AT a] w fun e w' => e = .returned (.bool false) ∧ Below w.heap.size w w' := by
  have b1 : sb < w.heap.size + 1 := by omega
  have b2 : rb < w.heap.size + 1 := by omega
  have b3 : eb < w.heap.size + 1 := by omega
  unfold AT
  go_enter Yba.func7, Yba.ntmps7
  go_wp2_with fail
  refine wp_region_quiet_lit (by kernel_rfl) (by kernel_rfl) ?_
  iterate 8 (go_big_quiet_step (fail))
  go_big_quiet_want
  refine quiet_load_row 30 (.tmp 6) rfl w.heap.size rfl (idC k).toList _ (HW.id w k a) Yba.underlying30 rfl info30 ?_
  simp only [Act.put, List.setIfInBounds_toArray, List.set_cons_succ, List.set_cons_zero]
  go_big_quiet_on
  repeat (go_big_quiet_step (fail))
  refine wpQuiet_nil ?_
  intro _ hw'
  obtain ⟨nq, hw''⟩ := hw'
  subst hw''
  rename Nat => n1
  go_wp2_with fail
  go_quiet ((go_at_call 15; exact quiet_plus (hsame.out _)))
  go_wp2
  go_ret
  exact ⟨rfl, below_drewN (below_drewN (HW.below w k a) _) _⟩

set_option maxRecDepth 100000 in
set_option maxHeartbeats 800000 in
theorem ho_few (sb rb mb eb hb : Nat) (t : ByteArray) (k a : Int) (w : World) (hs : sb < w.heap.size) (hr : rb < w.heap.size) (s0 : w.cell? ⟨sb, 0, none⟩ = some (.map (some mb))) (r0 : w.cell? ⟨rb, 0, none⟩ = some (.string t))
    (hlook : ∀ n, (Instr.lookup 43 (.map (some mb)) (.agg (KC t k)) true).run Yba.prog ((HW w k a).drewN n) = .ok (.tuple #[.pointer (some ⟨eb, 0, none⟩), .bool true]) ((HW w k a).drewN n))
    (he : eb < w.heap.size) (e34 : w.cell? ⟨eb, 34, none⟩ = some (.pointer (some ⟨hb, 0, none⟩))) (e38 : w.cell? ⟨eb, 38, none⟩ = some (.bool true)) (hsame : Hid (∀ n, Calls Yba.prog 15 #[.pointer (some ⟨rb, 0, none⟩), .pointer (some ⟨hb, 0, none⟩)] ((HW w k a).drewN n) fun e w' => e = .returned (.bool true) ∧ ∃ m, w' = ((HW w k a).drewN n).drewN m)) :
    Calls Yba.prog 7 #[.pointer (some ⟨sb, 0, none⟩), .agg (idC k), .pointer (some ⟨rb, 0, none⟩), .bool false, AT a] w fun e w' => e = .returned (.bool false) ∧ Below w.heap.size w w' := by
  have b1 : sb < w.heap.size + 1 := by omega
  have b2 : rb < w.heap.size + 1 := by omega
  have b3 : eb < w.heap.size + 1 := by omega
  unfold AT
  go_enter Yba.func7, Yba.ntmps7
  go_wp2_with fail
  refine wp_region_quiet_lit (by kernel_rfl) (by kernel_rfl) ?_
  iterate 8 (go_big_quiet_step (fail))
  go_big_quiet_want
  refine quiet_load_row 30 (.tmp 6) rfl w.heap.size rfl (idC k).toList _ (HW.id w k a) Yba.underlying30 rfl info30 ?_
  simp only [Act.put, List.setIfInBounds_toArray, List.set_cons_succ, List.set_cons_zero]
  go_big_quiet_on
  repeat (go_big_quiet_step (fail))
  refine wpQuiet_nil ?_
  intro _ hw'
  obtain ⟨nq, hw''⟩ := hw'
  subst hw''
  rename Nat => n1
  go_wp2_with fail
  go_quiet ((go_at_call 15; exact quiet_plus (hsame.out _)))
  go_wp2
  go_ret
  exact ⟨rfl, below_drewN (below_drewN (HW.below w k a) _) _⟩


/-! ### a whole block that is one long row: read and written at once -/
theorem run_storeVar_all {P : Program} {w : World} {b : Nat} {C cells : Array Value} {t : TypeId} (ty : TypeId) (hb : w.heap[b]? = some (.cells C t (0, 0))) (hsz : C.size = cells.size)
    (hi : (P.info? ty).map (·.size) = some cells.size) (h1 : ∀ v ∈ cells.toList, v.oneCell' = true) :
    (storeVar ty ⟨b, 0, none⟩ (.agg cells)).run P w = .ok () (w.setRow b cells) := by
  have h := run_storeCells_at P b 0 t cells.toList 0 C w hb (by simp [hsz]) h1
  have e : (C.toList.take (0 + 0) ++ cells.toList ++ C.toList.drop (0 + 0 + cells.toList.length)).toArray = cells := by
    have : C.toList.drop cells.size = [] := List.drop_eq_nil_of_le (by simp [hsz])
    simp [this]
  rw [e] at h
  cases hq : P.info? ty with
  | none => simp [hq] at hi
  | some i =>
    have hs : cells.size = i.size := by simp [hq] at hi; omega
    simp [storeVar, sizeOf, typeInfo, hq, Value.cells, hs, h]

theorem wpList_store_all {P : Program} {ops : Array Oper} {rest : List Oper} {op : Oper} {a : Act} {w : World} {Q : Exit → Act → World → Prop} (hgd : op.guard = none) (ty : TypeId) (x y : Operand) (ho : op.op = .store ty x y)
    (b : Nat) (cells C : Array Value) (t : TypeId) (hx : a.eval x = .pointer (some ⟨b, 0, none⟩)) (hy : a.eval y = .agg cells) (hb : w.heap[b]? = some (.cells C t (0, 0))) (hsz : C.size = cells.size)
    (hi : (P.info? ty).map (·.size) = some cells.size) (h1 : ∀ v ∈ cells.toList, v.oneCell' = true)
    (h : ∀ w', w'.heap[b]? = some (.cells cells t (0, 0)) → Kept (· = b) w w' → wpList P ops Q rest (a.put op.dst undef) w') : wpList P ops Q (op :: rest) a w := by
  refine wpList_plain hgd fun _ hK => ?_
  unfold Oper.wp execOp
  simp only [ho, hx, hy, Instr.storeAt, Instr.sureAddr, Sem.run_bind, Sem.run_pure, Result.andThen_ok, run_storeVar_all ty hb hsz hi h1]
  refine hK _ _ (h _ (hp_setRow_eq hb) ⟨rfl, rfl, rfl, by simp [World.setRow], fun k hk hne => hp_setRow_ne hne⟩)

theorem wpList_load_all {P : Program} {ops : Array Oper} {rest : List Oper} {op : Oper} {a : Act} {w : World} {Q : Exit → Act → World → Prop} (hgd : op.guard = none) (ty : TypeId) (x : Operand) (ho : op.op = .load ty x)
    (b : Nat) (C : Array Value) (t : TypeId) (hx : a.eval x = .pointer (some ⟨b, 0, none⟩)) (hb : w.heap[b]? = some (.cells C t (0, 0))) (d : TypeDesc)
    (hu : P.underlying ty = some d) (hd : d.isRow = true) (hi : (P.info? ty).map (·.size) = some C.size)
    (h : wpList P ops Q rest (a.put op.dst (.agg C)) w) : wpList P ops Q (op :: rest) a w :=
  wpList_load_mid hgd ty x ho b 0 hx C.toList d (range_block hb) hu hd (by simpa using hi) (by simpa using h)

attribute [local go_sem] Go.wp_at_zero Go.wp_at_succ
set_option maxRecDepth 100000 in
set_option maxHeartbeats 800000 in
theorem ho_time_all (sb rb mb eb hb : Nat) (t : ByteArray) (k a h l : Int) (w : World) (h0 : -2305843009213693952 ≤ h) (h1 : h ≤ 2305843009213693952) (l0 : -2305843009213693952 ≤ l) (l1 : l ≤ 2305843009213693952) (hs : sb < w.heap.size) (hr : rb < w.heap.size) (s0 : w.cell? ⟨sb, 0, none⟩ = some (.map (some mb))) (r0 : w.cell? ⟨rb, 0, none⟩ = some (.string t))
    (hlook : ∀ n, (Instr.lookup 43 (.map (some mb)) (.agg (KC t k)) true).run Yba.prog ((HW w k a).drewN n) = .ok (.tuple #[.pointer (some ⟨eb, 0, none⟩), .bool true]) ((HW w k a).drewN n))
    (he : eb < w.heap.size) (e34 : w.cell? ⟨eb, 34, none⟩ = some (.pointer (some ⟨hb, 0, none⟩))) (e35 : w.cell? ⟨eb, 35, none⟩ = some (.int .u64 (h % 1000000000))) (e36 : w.cell? ⟨eb, 36, none⟩ = some (.int .i64 (h / 1000000000))) (e37 : w.cell? ⟨eb, 37, none⟩ = some (.pointer none)) (s5 : w.cell? ⟨sb, 5, none⟩ = some (.int .i64 l)) (e38 : w.cell? ⟨eb, 38, none⟩ = some (.bool false)) (hsame : Hid (∀ n, Calls Yba.prog 15 #[.pointer (some ⟨rb, 0, none⟩), .pointer (some ⟨hb, 0, none⟩)] ((HW w k a).drewN n) fun e w' => e = .returned (.bool true) ∧ ∃ m, w' = ((HW w k a).drewN n).drewN m)) :
    Calls Yba.prog 7 #[.pointer (some ⟨sb, 0, none⟩), .agg (idC k), .pointer (some ⟨rb, 0, none⟩), .bool false, AT a] w fun e w' => e = .returned (.bool (!decide (h + l < a))) ∧ Below w.heap.size w w' := by
  have b1 : sb < w.heap.size + 1 := by omega
  have b2 : rb < w.heap.size + 1 := by omega
  have b3 : eb < w.heap.size + 1 := by omega
  unfold AT
  go_enter Yba.func7, Yba.ntmps7
  go_wp2_with fail
  refine wp_region_quiet_lit (by kernel_rfl) (by kernel_rfl) ?_
  iterate 8 (go_big_quiet_step (fail))
  go_big_quiet_want
  refine quiet_load_row 30 (.tmp 6) rfl w.heap.size rfl (idC k).toList _ (HW.id w k a) Yba.underlying30 rfl info30 ?_
  simp only [Act.put, List.setIfInBounds_toArray, List.set_cons_succ, List.set_cons_zero]
  go_big_quiet_on
  repeat (go_big_quiet_step (fail))
  refine wpQuiet_nil ?_
  intro _ hw'
  obtain ⟨nq, hw''⟩ := hw'
  subst hw''
  rename Nat => n1
  obtain ⟨W1, hW1⟩ : ∃ W1, W1 = (HW w k a).drewN n1 := ⟨_, rfl⟩
  have hb1 : Below w.heap.size w W1 := by rw [hW1]; exact below_drewN (HW.below w k a) _
  have hz : W1.heap.size = w.heap.size + 1 + 1 := by rw [hW1]; simp [World.drewN]
  have hsm : ∀ n, Calls Yba.prog 15 #[.pointer (some ⟨rb, 0, none⟩), .pointer (some ⟨hb, 0, none⟩)] (W1.drewN n) fun e w' => e = .returned (.bool true) ∧ ∃ m, w' = (W1.drewN n).drewN m := by
    intro n; rw [hW1, World.drewN_drewN]; exact hsame.out _
  have f34 := (hb1.cell (p := ⟨eb, 34, none⟩) he).trans e34
  have f35 := (hb1.cell (p := ⟨eb, 35, none⟩) he).trans e35
  have f36 := (hb1.cell (p := ⟨eb, 36, none⟩) he).trans e36
  have f37 := (hb1.cell (p := ⟨eb, 37, none⟩) he).trans e37
  have f38 := (hb1.cell (p := ⟨eb, 38, none⟩) he).trans e38
  have g5 := (hb1.cell (p := ⟨sb, 5, none⟩) hs).trans s5
  obtain ⟨tb, htb⟩ : ∃ tb, tb = w.heap.size + 1 := ⟨_, rfl⟩
  have hblk : W1.heap[tb]? = some (.cells #[.int .u64 (a % 1000000000), .int .i64 (a / 1000000000), .pointer none] 40) := by rw [hW1, htb]; exact hp_alloc_at (by simp)
  have t0 : W1.cell? ⟨tb, 0, none⟩ = some (.int .u64 (a % 1000000000)) := cell_at hblk rfl
  have t1 : W1.cell? ⟨tb, 1, none⟩ = some (.int .i64 (a / 1000000000)) := cell_at hblk rfl
  have t2 : W1.cell? ⟨tb, 2, none⟩ = some (.pointer none) := cell_at hblk rfl
  have z1 : tb < W1.heap.size := by omega
  have z2 : tb < W1.heap.size + 1 := by omega
  have z3 : eb < W1.heap.size := by omega
  have z4 : eb < W1.heap.size + 1 := by omega
  have z5 : sb < W1.heap.size := by omega
  have z6 : sb < W1.heap.size + 1 := by omega
  have HSM := hide hsm
  have HB := hide hb1
  have HZ := hide hz
  rw [← hW1, ← htb]
  clear hW1 htb hblk hsm hb1 hz hsame hlook s0 r0 e34 e35 e36 e37 s5 b1 b2 b3
  generalize Value.agg (idC k) = va
  generalize Value.agg (KC t k) = vk
  go_wp2_with fail
  go_region_held3 (fun w' => w'.cell? ⟨eb, 34, none⟩ = some (.pointer (some ⟨hb, 0, none⟩)) ∧ w'.cell? ⟨eb, 35, none⟩ = some (.int .u64 (h % 1000000000)) ∧ w'.cell? ⟨eb, 36, none⟩ = some (.int .i64 (h / 1000000000)) ∧ w'.cell? ⟨eb, 37, none⟩ = some (.pointer none) ∧ w'.cell? ⟨eb, 38, none⟩ = some (.bool false) ∧ w'.cell? ⟨sb, 5, none⟩ = some (.int .i64 l) ∧ w'.cell? ⟨tb, 0, none⟩ = some (.int .u64 (a % 1000000000)) ∧ w'.cell? ⟨tb, 1, none⟩ = some (.int .i64 (a / 1000000000)) ∧ w'.cell? ⟨tb, 2, none⟩ = some (.pointer none)) (go_keep)
    (first | (go_at_call 15; refine (HSM.out 1).mono ?_; rintro e w' ⟨rfl, m, rfl⟩) | (go_at_call 6; refine (add_any h l _ (by omega) (by omega) (by omega) (by omega)).mono ?_; rintro e w' ⟨rfl, C1, C2, rfl⟩) | (go_at_call 16; refine (after_any a (h + l) _).mono ?_; rintro e w' ⟨rfl, D1, D2, rfl⟩))
  go_wp2
  go_ret
  have hz1 : w.heap.size ≤ W1.heap.size := HB.out.size
  exact ⟨rfl, ((((below_drewN HB.out _).alloc (by simp [World.drewN]; omega) _).alloc (by simp [World.drewN]; omega) _).alloc (by simp [World.drewN]; omega) _).alloc (by simp [World.drewN]; omega) _⟩
end Go.Proofs.Ybulkdpjq
