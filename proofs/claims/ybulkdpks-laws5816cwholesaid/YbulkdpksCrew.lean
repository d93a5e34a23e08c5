/-
  The crew's small methods: len, idle, free, rouse; wakeUp.
-/
import Derived.Test.YbulkdpksRows
import Derived.WalkKit
import Derived.ProofKit
import Derived.OpenShut
import Derived.WalkLawsBesides
import Derived.BigQuiet
import Derived.Laws.BitsAllLaws
import Derived.Laws.StructEq
import Derived.Outline
import Derived.Test.YbulkdpksHeap
import Derived.Test.YbulkdpksSync

namespace Go.Proofs.Ybulkdpks
open Go.ChangeShapes Go.WideShapes Go.ChangeAt Go.RowKit
open Go.ChangeMaps (setBlock)
set_option linter.unusedVariables false

theorem quiet_one {P : Program} {f : FuncId} {args : Array Value} {W : World} {x : Nat} {v : Value}
    (h : Calls P f args (W.drewN x) fun e w' => e = .returned v ∧ ∃ m, w' = (W.drewN x).drewN m) : Calls P f args (W.drewN x) fun e w' => e = .returned v ∧ ∃ m, w' = W.drewN m :=
  h.mono fun _ _ ⟨h1, m, h2⟩ => ⟨h1, x + m, by rw [h2, World.drewN_drewN]⟩

/-- '(*ring).len' -/
theorem len_any (b off : Nat) (n : Int) (w : World) (hn : w.cell? ⟨b, off + 1, none⟩ = some (.int .i64 n)) : Calls Yba.prog 34 #[.pointer (some ⟨b, off, none⟩)] w fun e w' => e = .returned (.int .i64 n) ∧ w' = w := by
  go_enter Yba.func34, Yba.ntmps34
  go_wp2
  go_ret
  exact ⟨rfl, rfl⟩

/-- '(*crew).idle' -/
theorem idle_any (cb : Nat) (aw : Int) (p : Option Addr) (l c : Nat) (w : World) (a0 : 0 ≤ aw) (a1 : aw ≤ 255) (hl : l ≤ 255) (h4 : w.cell? ⟨cb, 4, none⟩ = some (.int .i64 aw)) (h9 : w.cell? ⟨cb, 9, none⟩ = some (.slice p l c)) :
    Calls Yba.prog 45 #[.pointer (some ⟨cb, 0, none⟩)] w fun e w' => e = .returned (.int .i64 (aw + l)) ∧ ∃ q, w' = w.drewN q := by
  go_enter Yba.func45, Yba.ntmps45
  go_wp2_with fail
  go_quiet (fail)
  go_wp2
  go_ret
  exact ⟨rfl, _, rfl⟩

/-- '(*crew).free' -/
theorem free_any (cb : Nat) (aw k : Int) (p : Option Addr) (l c : Nat) (w : World) (a0 : 0 ≤ aw) (a1 : aw ≤ 255) (hl : l ≤ 255) (k0 : 0 ≤ k) (k1 : k ≤ 255) (h4 : w.cell? ⟨cb, 4, none⟩ = some (.int .i64 aw)) (h9 : w.cell? ⟨cb, 9, none⟩ = some (.slice p l c)) (h7 : w.cell? ⟨cb, 7, none⟩ = some (.int .i64 k)) :
    Calls Yba.prog 27 #[.pointer (some ⟨cb, 0, none⟩)] w fun e w' => e = .returned (.int .i64 (aw + l - k)) ∧ ∃ q, w' = w.drewN q := by
  have HI : Hid (∀ n, Calls Yba.prog 45 #[.pointer (some ⟨cb, 0, none⟩)] (w.drewN n) fun e w' => e = .returned (.int .i64 (aw + l)) ∧ ∃ q, w' = (w.drewN n).drewN q) := fun n => idle_any cb aw p l c (w.drewN n) a0 a1 hl h4 h9
  have HL : Hid (∀ n, Calls Yba.prog 34 #[.pointer (some ⟨cb, 6, none⟩)] (w.drewN n) fun e w' => e = .returned (.int .i64 k) ∧ ∃ q, w' = (w.drewN n).drewN q) := fun n => (len_any cb 6 k (w.drewN n) h7).mono fun e w' h => ⟨h.1, 0, by rw [h.2]; rfl⟩
  go_enter Yba.func27, Yba.ntmps27
  go_wp2_with fail
  go_quiet (first | (go_at_call 45; exact quiet_one (HI.out _)) | (go_at_call 34; exact quiet_one (HL.out _)))
  go_wp2
  go_ret
  exact ⟨rfl, _, rfl⟩

theorem wake_nil (w : World) : Calls Yba.prog 31 #[.pointer none] w fun e w' => e = .returned (.tuple #[]) ∧ w' = w := by
  go_enter Yba.func31, Yba.ntmps31
  go_wp2
  go_end0
  exact ⟨rfl, rfl⟩

theorem wake_some (b : Nat) (w : World) (hc : w.cell? ⟨b, 0, none⟩ = some (.int .u64 4294967296)) (hz : w.frozen? ⟨b, 0, none⟩ = false) :
    Calls Yba.prog 31 #[.pointer (some ⟨b, 0, none⟩)] w fun e w' => e = .returned (.tuple #[]) ∧ w' = w.setCell ⟨b, 0, none⟩ (.int .u64 0) := by
  go_enter Yba.func31, Yba.ntmps31
  go_wp2_with (go_at_call 46; refine (wg_done b 0 _ hc hz).mono ?_; rintro e w' ⟨rfl, rfl⟩)
  go_end0
  exact ⟨rfl, rfl⟩

theorem rouse_nil (cb : Nat) (aw k : Int) (p : Option Addr) (l c : Nat) (w : World) (a0 : 0 ≤ aw) (a1 : aw ≤ 255) (hl : l ≤ 255) (k0 : 0 < k) (h : 0 < aw ∨ l = 0) (h4 : w.cell? ⟨cb, 4, none⟩ = some (.int .i64 aw)) (h9 : w.cell? ⟨cb, 9, none⟩ = some (.slice p l c)) (h7 : w.cell? ⟨cb, 7, none⟩ = some (.int .i64 k)) :
    Calls Yba.prog 44 #[.pointer (some ⟨cb, 0, none⟩)] w fun e w' => e = .returned (.pointer none) ∧ w' = w := by
  have HL : Hid (Calls Yba.prog 34 #[.pointer (some ⟨cb, 6, none⟩)] w fun e w' => e = .returned (.int .i64 k) ∧ w' = w) := len_any cb 6 k w h7
  have hk : (k == 0) = false := by simp; omega
  by_cases ha : 0 < aw
  · go_enter Yba.func44, Yba.ntmps44
    go_wp2
    go_ret
    exact ⟨rfl, rfl⟩
  · obtain rfl : l = 0 := by omega
    go_enter Yba.func44, Yba.ntmps44
    go_wp2_with (go_at_call 34; refine HL.out.mono ?_; rintro e w' ⟨rfl, rfl⟩)
    go_ret
    exact ⟨rfl, rfl⟩

set_option maxRecDepth 100000 in
theorem rouse_some (cb pb wb m c : Nat) (k d : Int) (r : Value) (w : World) (hm : m ≤ 254) (hmc : m ≤ c) (k0 : 0 < k) (h4 : w.cell? ⟨cb, 4, none⟩ = some (.int .i64 0)) (h9 : w.cell? ⟨cb, 9, none⟩ = some (.slice (some ⟨pb, 0, none⟩) (m + 1) c)) (h7 : w.cell? ⟨cb, 7, none⟩ = some (.int .i64 k)) (h5 : w.cell? ⟨cb, 5, none⟩ = some (.int .u64 d))
    (hp : w.cell? ⟨pb, m * 2, none⟩ = some (.pointer (some ⟨wb, 0, none⟩))) (hr : w.cell? ⟨pb, m * 2 + 1, none⟩ = some r) (hw : w.cell? ⟨wb, 3, none⟩ = some (.int .u64 0)) (zc : ∀ o, w.frozen? ⟨cb, o, none⟩ = false) (zp : ∀ o, w.frozen? ⟨pb, o, none⟩ = false) (zw : ∀ o, w.frozen? ⟨wb, o, none⟩ = false)
    (n1 : cb ≠ pb) (n2 : cb ≠ wb) (n3 : pb ≠ wb) :
    Calls Yba.prog 44 #[.pointer (some ⟨cb, 0, none⟩)] w fun e w' => e = .returned (.pointer (some ⟨wb, 0, none⟩)) ∧
      w' = ((((w.setCell ⟨pb, m * 2, none⟩ (.pointer none)).setCell ⟨pb, m * 2 + 1, none⟩ (.int .u64 0)).setCell ⟨cb, 9, none⟩ (.slice (some ⟨pb, 0, none⟩) m c)).setCell ⟨cb, 4, none⟩ (.int .i64 1)).setCell ⟨wb, 3, none⟩ (.int .u64 d) := by
  have HL : Hid (Calls Yba.prog 34 #[.pointer (some ⟨cb, 6, none⟩)] w fun e w' => e = .returned (.int .i64 k) ∧ w' = w) := len_any cb 6 k w h7
  have hk : (k == 0) = false := by simp; omega
  have z1 := zc 9
  have z2 := zc 4
  have z3 := zp (m * 2)
  have z4 := zp (m * 2 + 1)
  have z5 := zw 3
  have hmm : ((m + 1 : Nat) : Int) - 1 = m := by omega
  have hm0 : (((m + 1 : Nat) : Int) == 0) = false := by simp; omega
  clear zc zp zw
  go_enter Yba.func44, Yba.ntmps44
  go_wp2_with (go_at_call 34; refine HL.out.mono ?_; rintro e w' ⟨rfl, rfl⟩)
  go_ret
  exact ⟨rfl, rfl⟩
end Go.Proofs.Ybulkdpks
