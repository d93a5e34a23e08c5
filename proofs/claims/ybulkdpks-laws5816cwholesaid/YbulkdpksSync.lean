/-
  package sync in one goroutine, and the pool's spin lock: their contracts.
-/
import Derived.Test.YbulkdpksRows
import Derived.WalkKit
import Derived.ProofKit
import Derived.OpenShut
import Derived.WalkLawsBesides
import Derived.BigQuiet
import Derived.Laws.LoneSync
import Derived.Test.YbulkdpksDefer
namespace Go.Proofs.Ybulkdpks
open Go.ChangeShapes Go.WideShapes Go.ChangeAt Go.RowKit
set_option linter.unusedVariables false

/-- What the conversion of a pointer to the pointer type that race marks take comes to. -/
def seenPtr (t : TypeId) (a : Addr) : Sem Value := do
  let s ← Conv.seenAt a
  let nothing := match ← cellsIn s.block with
    | some cells => s.off ≥ cells && s.spot.isNone
    | none => false
  if (← sizeOf t) = 0 || nothing then pure (.pointer (some ⟨← newObj (.view s t), 0, none⟩)) else
  pure (.pointer (some s))

theorem run_seenPtr {P : Program} {t : TypeId} (hsz : (P.info? t).map (fun i => decide (i.size = 0)) = some false) {a : Addr} {v : Value} {w : World} (hc : w.cell? a = some v) :
    (seenPtr t a).run P w = .ok (.pointer (some a)) w := by
  obtain ⟨e, n, hsh, hlt, hsp⟩ := World.shape?_of_cell? hc
  obtain ⟨i, hi, hz0⟩ := Option.map_eq_some_iff.1 hsz
  have hz : i.size ≠ 0 := by simpa using hz0
  have hge : ¬ (n ≤ a.off) := by omega
  simp [seenPtr, Conv.seenAt, viewAt, cellsIn, sizeOf, typeInfo, hi, hz, hsh, hge, Result.andThen]

theorem conv_word {a : Addr} {v : Value} {w : World} (hc : w.cell? a = some v) : (convert 106 55 (.pointer (some a))).run Yba.prog w = .ok (.pointer (some a)) w :=
  (show (convert 106 55 (.pointer (some a))).run Yba.prog w = (seenPtr 42 a).run Yba.prog w by kernel_rfl).trans (run_seenPtr (by kernel_rfl) hc)
theorem conv_group {a : Addr} {v : Value} {w : World} (hc : w.cell? a = some v) : (convert 98 55 (.pointer (some a))).run Yba.prog w = .ok (.pointer (some a)) w :=
  (show (convert 98 55 (.pointer (some a))).run Yba.prog w = (seenPtr 44 a).run Yba.prog w by kernel_rfl).trans (run_seenPtr (by kernel_rfl) hc)

/-! ### the marks and the atomics that package sync's text calls -/
theorem c_relMerge (a : Addr) (w : World) : (callFunc 10 #[.pointer (some a)]).run Yba.prog w = .ok (.value (.tuple #[])) w := run_call_marked Yba.func10 (by kernel_rfl) (by kernel_rfl) (by kernel_rfl) .releaseMerge (by kernel_rfl) a w
theorem c_disable (w : World) : (callFunc 11 #[]).run Yba.prog w = .ok (.value (.tuple #[])) w := run_call_mark0 Yba.func11 (by kernel_rfl) (by kernel_rfl) (by kernel_rfl) .disable (by kernel_rfl) w
theorem c_enable (w : World) : (callFunc 12 #[]).run Yba.prog w = .ok (.value (.tuple #[])) w := run_call_mark0 Yba.func12 (by kernel_rfl) (by kernel_rfl) (by kernel_rfl) .enable (by kernel_rfl) w
theorem c_bubble (w : World) : (callFunc 13 #[]).run Yba.prog w = .ok (.value (.bool false)) w := by
  rw [run_callFunc_extern Yba.func13 (by kernel_rfl) (by kernel_rfl) (by kernel_rfl) (e := fun _ => pure (.bool false)) (by kernel_rfl)]; rfl
theorem c_read (a : Addr) (w : World) : (callFunc 18 #[.pointer (some a)]).run Yba.prog w = .ok (.value (.tuple #[])) w := run_call_marked Yba.func18 (by kernel_rfl) (by kernel_rfl) (by kernel_rfl) .read (by kernel_rfl) a w

/-- '(*spinLock).Lock', free. -/
theorem lock_free (b off : Nat) (w : World) (hc : w.cell? ⟨b, off, none⟩ = some (.int .i32 0)) (hz : w.frozen? ⟨b, off, none⟩ = false) :
    Calls Yba.prog 23 #[.pointer (some ⟨b, off, none⟩)] w fun e w' => e = .returned (.tuple #[]) ∧ w' = w.setCell ⟨b, off, none⟩ (.int .i32 1) := by
  have hcas := run_call_cas_hit (P := Yba.prog) Yba.func52 (by kernel_rfl) (by kernel_rfl) (by kernel_rfl) .i32 (by kernel_rfl) (y := 1) hc hz
  go_enter Yba.func23, Yba.ntmps23
  go_wp2
  refine bodyPost_ret (results_none rfl _ _ _) rfl ⟨rfl, rfl⟩

/-- sync/atomic.SwapT: the number is stored, the old one handed back. -/
theorem run_call_swap {P : Program} {f : FuncId} {fn : Func} (hf : P.funcs[f]? = some fn) (hname : (fn.name == "runtime.NumGoroutine") = false) (hb : fn.body.isNone = true) (hn : Extern.findNext fn = none) (k : IntKind)
    (he : Extern.find fn = some (Extern.Atomic.swapT (.int k))) {a : Addr} {x y : Int} {w : World} (hc : w.cell? a = some (.int k x)) (hz : w.frozen? a = false) :
    (callFunc f #[.pointer (some a), .int k y]).run P w = .ok (.value (.int k x)) (w.setCell a (.int k y)) := by
  rw [run_callFunc_extern hf hname hb hn he]
  change (Sem.run P (do
    let a' ← asAddr (.pointer (some a))
    let old ← Extern.Atomic.read (.int k) a'
    store a' (.int k y) .atomic
    pure old) w).andThen _ = _
  simp [Extern.Atomic.read, asAddr, hc, hz, run_store P w a (.int k y) .atomic rfl, Result.andThen]

/-- '(*spinLock).Unlock', held, nobody waiting. -/
theorem unlock_held (b off : Nat) (w : World) (hc : w.cell? ⟨b, off, none⟩ = some (.int .i32 1)) (hz : w.frozen? ⟨b, off, none⟩ = false) :
    Calls Yba.prog 24 #[.pointer (some ⟨b, off, none⟩)] w fun e w' => e = .returned (.tuple #[]) ∧ w' = w.setCell ⟨b, off, none⟩ (.int .i32 0) := by
  have hsw := run_call_swap (P := Yba.prog) Yba.func55 (by kernel_rfl) (by kernel_rfl) (by kernel_rfl) .i32 (by kernel_rfl) (y := 0) hc hz
  go_enter Yba.func24, Yba.ntmps24
  go_wp2
  refine bodyPost_ret (results_none rfl _ _ _) rfl ⟨rfl, rfl⟩

/-- '(*atomic.Int32).Load' -/
theorem load32 (a : Addr) (x : Int) (w : World) (hc : w.cell? a = some (.int .i32 x)) : Calls Yba.prog 7 #[.pointer (some a)] w fun e w' => e = .returned (.int .i32 x) ∧ w' = w := by
  have hl := run_call_load (P := Yba.prog) Yba.func32 (by kernel_rfl) (by kernel_rfl) (by kernel_rfl) .i32 (by kernel_rfl) hc
  go_enter Yba.func7, Yba.ntmps7
  go_wp2
  go_ret
  exact ⟨rfl, rfl⟩

theorem enable_deferred (w : World) : DefersTo Yba.prog [{ target := Target.fn (Fn.func 12) #[], args := #[] }] w w :=
  ⟨_, _, .tuple #[], w, rfl, by simp [invoke, c_enable], rfl⟩

set_option maxRecDepth 100000 in
/-- '(*sync.WaitGroup).Add(1)', nobody counted, nobody waiting: one is counted. -/
theorem wg_add1 (b off : Nat) (x : Value) (w : World) (hc : w.cell? ⟨b, off, none⟩ = some (.int .u64 0)) (hz : w.frozen? ⟨b, off, none⟩ = false) (hs : w.cell? ⟨b, off + 1, none⟩ = some x) :
    Calls Yba.prog 5 #[.pointer (some ⟨b, off, none⟩), .int .i64 1] w fun e w' => e = .returned (.tuple #[]) ∧ w' = w.setCell ⟨b, off, none⟩ (.int .u64 4294967296) := by
  have hd := c_disable
  have hr := c_read
  have hbu := c_bubble
  have e0 : bits .and .u64 4294967296 2147483648 = 0 := by decide
  have e1 : bits .and .u64 4294967296 2147483647 = 0 := by decide
  have hadd := run_call_add (P := Yba.prog) Yba.func36 (by kernel_rfl) (by kernel_rfl) (by kernel_rfl) .u64 (by kernel_rfl) (y := 4294967296) (s := 4294967296) hc hz (by simp [go_sem]; rfl)
  have hcv := conv_word ((World.cell?_setCell_other w ⟨b, off, none⟩ ⟨b, off + 1, none⟩ (.int .u64 4294967296) (by simp)).trans hs)
  refine calls_of_wp_ext Yba.func5 rfl ?_
  simp only [Yba.ntmps5, List.size_toArray, List.length_cons, List.length_nil, Nat.reduceAdd, Nat.reduceSub, Array.replicate_succ,
     Array.replicate_zero, List.push_toArray, List.append_toArray, List.nil_append, List.cons_append]
  go_wp2
  exact ⟨_, _, enable_deferred _, results_none rfl _ _ _, rfl, rfl⟩

set_option maxRecDepth 100000 in
/-- '(*sync.WaitGroup).Add(-1)', one counted, nobody waiting: none is counted. -/
theorem wg_add_neg (b off : Nat) (w : World) (hc : w.cell? ⟨b, off, none⟩ = some (.int .u64 4294967296)) (hz : w.frozen? ⟨b, off, none⟩ = false) :
    Calls Yba.prog 5 #[.pointer (some ⟨b, off, none⟩), .int .i64 (-1)] w fun e w' => e = .returned (.tuple #[]) ∧ w' = w.setCell ⟨b, off, none⟩ (.int .u64 0) := by
  have hd := c_disable
  have hr := c_relMerge
  have hbu := c_bubble
  have e0 : bits .and .u64 0 2147483648 = 0 := by decide
  have e1 : bits .and .u64 0 2147483647 = 0 := by decide
  have ew : IntKind.u64.wrap (IntKind.u64.wrap (-1) * 4294967296) = 18446744069414584320 := by decide
  have hadd := run_call_add (P := Yba.prog) Yba.func36 (by kernel_rfl) (by kernel_rfl) (by kernel_rfl) .u64 (by kernel_rfl) (y := 18446744069414584320) (s := 0) hc hz (by simp [go_sem]; rfl)
  have hcv := conv_group hc
  refine calls_of_wp_ext Yba.func5 rfl ?_
  simp only [Yba.ntmps5, List.size_toArray, List.length_cons, List.length_nil, Nat.reduceAdd, Nat.reduceSub, Array.replicate_succ,
     Array.replicate_zero, List.push_toArray, List.append_toArray, List.nil_append, List.cons_append]
  go_wp2
  exact ⟨_, _, enable_deferred _, results_none rfl _ _ _, rfl, rfl⟩

theorem wg_done (b off : Nat) (w : World) (hc : w.cell? ⟨b, off, none⟩ = some (.int .u64 4294967296)) (hz : w.frozen? ⟨b, off, none⟩ = false) :
    Calls Yba.prog 46 #[.pointer (some ⟨b, off, none⟩)] w fun e w' => e = .returned (.tuple #[]) ∧ w' = w.setCell ⟨b, off, none⟩ (.int .u64 0) := by
  go_enter Yba.func46, Yba.ntmps46
  go_wp2_with fail
  refine (wg_add_neg b off _ hc hz).mono ?_
  rintro e w' ⟨rfl, rfl⟩
  go_wp2
  go_end0
  exact ⟨rfl, rfl⟩

end Go.Proofs.Ybulkdpks
