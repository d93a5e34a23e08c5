/-
  package sync in one goroutine: Mutex Lock, Unlock, TryLock and WaitGroup Add, Done by their contracts.
-/
import Derived.Test.YbulkdphmRows
import Derived.WalkKit
import Derived.ProofKit
import Derived.OpenShut
import Derived.WalkLawsBesides
import Derived.BigQuiet
import Derived.Laws.LoneSync
import Derived.Test.YbulkdphmDefer
namespace Go.Proofs.Ybulkdphm
open Go.ChangeShapes Go.WideShapes Go.ChangeAt Go.RowKit
set_option linter.unusedVariables false

/-- What the conversion of a pointer to the pointer type that race marks take comes to. -/
def seenPtr (t : TypeId) (a : Addr) : Sem Value := do
  let s ← Conv.seenAt a
  let nothing := match ← cellsIn s.block with
    | some cells => s.off ≥ cells && s.spot.isNone
    | none => false
  if (← sizeOf t) = 0 || nothing then pure (.pointer (some ⟨← newObj (.view s t), 0, none⟩)) else
  pure (.pointer (some s))

theorem run_seenPtr {P : Program} {t : TypeId} (hsz : (P.info? t).map (fun i => decide (i.size = 0)) = some false) {a : Addr} {v : Value} {w : World} (hc : w.cell? a = some v) :
    (seenPtr t a).run P w = .ok (.pointer (some a)) w := by
  obtain ⟨e, n, hsh, hlt, hsp⟩ := World.shape?_of_cell? hc
  obtain ⟨i, hi, hz0⟩ := Option.map_eq_some_iff.1 hsz
  have hz : i.size ≠ 0 := by simpa using hz0
  have hge : ¬ (n ≤ a.off) := by omega
  simp [seenPtr, Conv.seenAt, viewAt, cellsIn, sizeOf, typeInfo, hi, hz, hsh, hge, Result.andThen]

theorem conv_mutex {a : Addr} {v : Value} {w : World} (hc : w.cell? a = some v) : (convert 92 82 (.pointer (some a))).run Yba.prog w = .ok (.pointer (some a)) w :=
  (show (convert 92 82 (.pointer (some a))).run Yba.prog w = (seenPtr 53 a).run Yba.prog w by kernel_rfl).trans (run_seenPtr (by kernel_rfl) hc)
theorem conv_word {a : Addr} {v : Value} {w : World} (hc : w.cell? a = some v) : (convert 87 82 (.pointer (some a))).run Yba.prog w = .ok (.pointer (some a)) w :=
  (show (convert 87 82 (.pointer (some a))).run Yba.prog w = (seenPtr 49 a).run Yba.prog w by kernel_rfl).trans (run_seenPtr (by kernel_rfl) hc)
theorem conv_group {a : Addr} {v : Value} {w : World} (hc : w.cell? a = some v) : (convert 78 82 (.pointer (some a))).run Yba.prog w = .ok (.pointer (some a)) w :=
  (show (convert 78 82 (.pointer (some a))).run Yba.prog w = (seenPtr 51 a).run Yba.prog w by kernel_rfl).trans (run_seenPtr (by kernel_rfl) hc)

/-! ### the marks and the atomics that package sync's text calls -/
theorem c_relMerge (a : Addr) (w : World) : (callFunc 29 #[.pointer (some a)]).run Yba.prog w = .ok (.value (.tuple #[])) w := run_call_marked Yba.func29 (by kernel_rfl) (by kernel_rfl) (by kernel_rfl) .releaseMerge (by kernel_rfl) a w
theorem c_disable (w : World) : (callFunc 30 #[]).run Yba.prog w = .ok (.value (.tuple #[])) w := run_call_mark0 Yba.func30 (by kernel_rfl) (by kernel_rfl) (by kernel_rfl) .disable (by kernel_rfl) w
theorem c_enable (w : World) : (callFunc 31 #[]).run Yba.prog w = .ok (.value (.tuple #[])) w := run_call_mark0 Yba.func31 (by kernel_rfl) (by kernel_rfl) (by kernel_rfl) .enable (by kernel_rfl) w
theorem c_bubble (w : World) : (callFunc 32 #[]).run Yba.prog w = .ok (.value (.bool false)) w := by
  rw [run_callFunc_extern Yba.func32 (by kernel_rfl) (by kernel_rfl) (by kernel_rfl) (e := fun _ => pure (.bool false)) (by kernel_rfl)]; rfl
theorem c_read (a : Addr) (w : World) : (callFunc 37 #[.pointer (some a)]).run Yba.prog w = .ok (.value (.tuple #[])) w := run_call_marked Yba.func37 (by kernel_rfl) (by kernel_rfl) (by kernel_rfl) .read (by kernel_rfl) a w
theorem c_acquire (a : Addr) (w : World) : (callFunc 43 #[.pointer (some a)]).run Yba.prog w = .ok (.value (.tuple #[])) w := run_call_marked Yba.func43 (by kernel_rfl) (by kernel_rfl) (by kernel_rfl) .acquire (by kernel_rfl) a w

set_option maxRecDepth 100000 in
theorem lock_free (a : Addr) (w : World) (hc : w.cell? a = some (.int .i32 0)) (hz : w.frozen? a = false) :
    Calls Yba.prog 21 #[.pointer (some a)] w fun e w' => e = .returned (.tuple #[]) ∧ w' = w.setCell a (.int .i32 1) := by
  have hd := c_disable
  have he := c_enable
  have ha := c_acquire
  have hcas := run_call_cas_hit (P := Yba.prog) Yba.func42 (by kernel_rfl) (by kernel_rfl) (by kernel_rfl) .i32 (by kernel_rfl) (y := 1) hc hz
  have hcv := conv_mutex (World.cell?_setCell_same w a (.int .i32 1) hc)
  go_enter Yba.func21, Yba.ntmps21
  go_wp2
  refine bodyPost_ret (results_none rfl _ _ _) rfl ?_
  go_wp2
  go_end0
  exact ⟨rfl, rfl⟩

set_option maxRecDepth 100000 in
theorem iunlock_held (a : Addr) (w : World) (hc : w.cell? a = some (.int .i32 1)) (hz : w.frozen? a = false) :
    Calls Yba.prog 25 #[.pointer (some a)] w fun e w' => e = .returned (.tuple #[]) ∧ w' = w.setCell a (.int .i32 0) := by
  have hd := c_disable
  have he := c_enable
  have ha := c_relMerge
  have hadd := run_call_add (P := Yba.prog) Yba.func44 (by kernel_rfl) (by kernel_rfl) (by kernel_rfl) .i32 (by kernel_rfl) (y := -1) (s := 0) hc hz (by simp [go_sem]; rfl)
  have hcv := conv_mutex hc
  go_enter Yba.func25, Yba.ntmps25
  go_wp2
  go_end0
  exact ⟨rfl, rfl⟩

theorem unlock_held (a : Addr) (w : World) (hc : w.cell? a = some (.int .i32 1)) (hz : w.frozen? a = false) :
    Calls Yba.prog 13 #[.pointer (some a)] w fun e w' => e = .returned (.tuple #[]) ∧ w' = w.setCell a (.int .i32 0) := by
  go_enter Yba.func13, Yba.ntmps13
  go_wp2_with fail
  refine (iunlock_held a _ hc hz).mono ?_
  rintro e w' ⟨rfl, rfl⟩
  go_wp2
  go_end0
  exact ⟨rfl, rfl⟩

theorem unlock_deferred (a : Addr) (u : FrameMode) (w : World) (hc : w.cell? a = some (.int .i32 1)) (hz : w.frozen? a = false) :
    CallsD Yba.prog 13 #[.pointer (some a)] u w fun e u' w' => u' = u ∧ (e = .returned (.tuple #[]) ∧ w' = w.setCell a (.int .i32 0)) := by
  go_enter_d Yba.func13, Yba.ntmps13
  go_wp2_with fail
  refine (iunlock_held a _ hc hz).mono ?_
  rintro e w' ⟨rfl, rfl⟩
  go_wp2
  go_end0
  exact ⟨rfl, rfl⟩

set_option maxRecDepth 100000 in
theorem trylock_free (a : Addr) (w : World) (hc : w.cell? a = some (.int .i32 0)) (hz : w.frozen? a = false) :
    Calls Yba.prog 12 #[.pointer (some a)] w fun e w' => e = .returned (.bool true) ∧ w' = w.setCell a (.int .i32 1) := by
  have hd := c_disable
  have he := c_enable
  have ha := c_acquire
  have e0 : bits .and .i32 0 5 = 0 := by decide
  have e1 : bits .or .i32 0 1 = 1 := by decide
  have hcas := run_call_cas_hit (P := Yba.prog) Yba.func42 (by kernel_rfl) (by kernel_rfl) (by kernel_rfl) .i32 (by kernel_rfl) (y := 1) hc hz
  have hcv := conv_mutex (World.cell?_setCell_same w a (.int .i32 1) hc)
  go_enter Yba.func12, Yba.ntmps12
  go_wp2
  go_ret
  exact ⟨rfl, rfl⟩

theorem enable_deferred (w : World) : DefersTo Yba.prog [{ target := Target.fn (Fn.func 31) #[], args := #[] }] w w :=
  ⟨_, _, .tuple #[], w, rfl, by simp [invoke, c_enable], rfl⟩

set_option maxRecDepth 100000 in
/-- '(*sync.WaitGroup).Add(1)', nobody counted, nobody waiting: one is counted. -/
theorem wg_add1 (b off : Nat) (x : Value) (w : World) (hc : w.cell? ⟨b, off, none⟩ = some (.int .u64 0)) (hz : w.frozen? ⟨b, off, none⟩ = false) (hs : w.cell? ⟨b, off + 1, none⟩ = some x) :
    Calls Yba.prog 23 #[.pointer (some ⟨b, off, none⟩), .int .i64 1] w fun e w' => e = .returned (.tuple #[]) ∧ w' = w.setCell ⟨b, off, none⟩ (.int .u64 4294967296) := by
  have hd := c_disable
  have hr := c_read
  have hbu := c_bubble
  have e0 : bits .and .u64 4294967296 2147483648 = 0 := by decide
  have e1 : bits .and .u64 4294967296 2147483647 = 0 := by decide
  have hadd := run_call_add (P := Yba.prog) Yba.func49 (by kernel_rfl) (by kernel_rfl) (by kernel_rfl) .u64 (by kernel_rfl) (y := 4294967296) (s := 4294967296) hc hz (by simp [go_sem]; rfl)
  have hcv := conv_word ((World.cell?_setCell_other w ⟨b, off, none⟩ ⟨b, off + 1, none⟩ (.int .u64 4294967296) (by simp)).trans hs)
  refine calls_of_wp_ext Yba.func23 rfl ?_
  simp only [Yba.ntmps23, List.size_toArray, List.length_cons, List.length_nil, Nat.reduceAdd, Nat.reduceSub, Array.replicate_succ,
     Array.replicate_zero, List.push_toArray, List.append_toArray, List.nil_append, List.cons_append]
  go_wp2
  exact ⟨_, _, enable_deferred _, results_none rfl _ _ _, rfl, rfl⟩

set_option maxRecDepth 100000 in
/-- '(*sync.WaitGroup).Add(-1)', one counted, nobody waiting: none is counted. -/
theorem wg_add_neg (b off : Nat) (w : World) (hc : w.cell? ⟨b, off, none⟩ = some (.int .u64 4294967296)) (hz : w.frozen? ⟨b, off, none⟩ = false) :
    Calls Yba.prog 23 #[.pointer (some ⟨b, off, none⟩), .int .i64 (-1)] w fun e w' => e = .returned (.tuple #[]) ∧ w' = w.setCell ⟨b, off, none⟩ (.int .u64 0) := by
  have hd := c_disable
  have hr := c_relMerge
  have hbu := c_bubble
  have e0 : bits .and .u64 0 2147483648 = 0 := by decide
  have e1 : bits .and .u64 0 2147483647 = 0 := by decide
  have ew : IntKind.u64.wrap (IntKind.u64.wrap (-1) * 4294967296) = 18446744069414584320 := by decide
  have hadd := run_call_add (P := Yba.prog) Yba.func49 (by kernel_rfl) (by kernel_rfl) (by kernel_rfl) .u64 (by kernel_rfl) (y := 18446744069414584320) (s := 0) hc hz (by simp [go_sem]; rfl)
  have hcv := conv_group hc
  refine calls_of_wp_ext Yba.func23 rfl ?_
  simp only [Yba.ntmps23, List.size_toArray, List.length_cons, List.length_nil, Nat.reduceAdd, Nat.reduceSub, Array.replicate_succ,
     Array.replicate_zero, List.push_toArray, List.append_toArray, List.nil_append, List.cons_append]
  go_wp2
  exact ⟨_, _, enable_deferred _, results_none rfl _ _ _, rfl, rfl⟩

theorem wg_done (b off : Nat) (w : World) (hc : w.cell? ⟨b, off, none⟩ = some (.int .u64 4294967296)) (hz : w.frozen? ⟨b, off, none⟩ = false) :
    Calls Yba.prog 14 #[.pointer (some ⟨b, off, none⟩)] w fun e w' => e = .returned (.tuple #[]) ∧ w' = w.setCell ⟨b, off, none⟩ (.int .u64 0) := by
  go_enter Yba.func14, Yba.ntmps14
  go_wp2_with fail
  refine (wg_add_neg b off _ hc hz).mono ?_
  rintro e w' ⟨rfl, rfl⟩
  go_wp2
  go_end0
  exact ⟨rfl, rfl⟩

end Go.Proofs.Ybulkdphm
