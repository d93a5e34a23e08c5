/-
  The law's own socket's SetDeadline, by its contract; what makes a block a socket's.
-/
import Derived.Test.YbulkdphmRows
import Derived.WalkKit
import Derived.ProofKit
import Derived.OpenShut
import Derived.WalkLawsBesides
import Derived.BigQuiet
import Derived.Deep.RegionWith
import Derived.Test.YbulkdphmMap
import Derived.Test.YbulkdphmTime
import Derived.Test.YbulkdphmSync
namespace Go.Proofs.Ybulkdphm
open Go.ChangeShapes Go.WideShapes Go.ChangeAt Go.RowKit
open Go.ChangeMaps (setBlock)
set_option linter.unusedVariables false

theorem hide {p : Prop} (h : p) : Hid p := h

theorem cap59 : ¬ 281474976710656 < Builtin.nextslicecap 1 0 * Yba.t59.bytes := by decide +kernel

/-- What SetDeadline leaves: the socket's log holds the one deadline, in a block of its own; else nothing that was there has turned. -/
def Logged (b : Nat) (x y : Int) (fail : Bool) (w w' : World) : Prop :=
  Kept (· = b) w w' ∧ ∃ g cap Z, w.heap.size ≤ g ∧ w'.heap[b]? = some (.cells #[.slice (some ⟨g, 0, none⟩) 1 cap, .int .i64 0, .bool fail] 39) ∧
    w'.heap[g]? = some (.cells (#[.int .u64 x, .int .i64 y, .pointer none] ++ Z) 59)

theorem logged_of {w : World} {b : Nat} {x y : Int} {fail : Bool} (h : w.heap[b]? = some (.cells #[.slice none 0 0, .int .i64 0, .bool fail] 39)) (cap : Nat) (C Z : Array Value) :
    Logged b x y fail w ((((w.setCell ⟨b, 0, none⟩ (.slice (some ⟨w.heap.size + 1 + 1, 0, none⟩) 1 cap)).alloc (.cells #[.int .u64 x, .int .i64 y, .pointer none] 59)).alloc
      (.cells C 59)).alloc (.cells (#[.int .u64 x, .int .i64 y, .pointer none] ++ Z) 59)).drew.drew := by
  have hb := lt_of_block h
  refine ⟨((((((Kept.refl (· = b) w).setCell (p := ⟨b, 0, none⟩) (.inl rfl) _).alloc _).alloc _).alloc _).drew).drew, w.heap.size + 1 + 1, cap, Z, by omega, ?_, ?_⟩
  · show (World.alloc _ _).heap[b]? = _
    rw [hp_alloc_lt (by simp; omega), hp_alloc_lt (by simp; omega), hp_alloc_lt (by simp; omega), hp_setCell_eq h]
    rfl
  · show (World.alloc _ _).heap[w.heap.size + 1 + 1]? = _
    exact hp_alloc_at (by simp)

theorem Logged.alloc {b : Nat} {x y : Int} {fail : Bool} {w w' : World} (h : Logged b x y fail w w') (hb : b < w.heap.size) (o : Obj) : Logged b x y fail w (w'.alloc o) := by
  obtain ⟨hk, g, cap, Z, h1, h2, h3⟩ := h
  exact ⟨hk.alloc o, g, cap, Z, h1, (hp_alloc_lt (lt_of_block h2)).trans h2, (hp_alloc_lt (lt_of_block h3)).trans h3⟩

set_option maxRecDepth 100000 in
theorem setDeadline_no (b : Nat) (x y : Int) (w : World) (h : w.heap[b]? = some (.cells #[.slice none 0 0, .int .i64 0, .bool false] 39)) :
    Calls Yba.prog 76 #[.pointer (some ⟨b, 0, none⟩), .agg #[.int .u64 x, .int .i64 y, .pointer none]] w fun e w' => (∃ v, e = .returned v) ∧ Logged b x y false w w' := by
  have h0 : w.cell? ⟨b, 0, none⟩ = some (.slice none 0 0) := cell_at h rfl
  have h2 : w.cell? ⟨b, 2, none⟩ = some (.bool false) := cell_at h rfl
  have hz : w.frozen? ⟨b, 0, none⟩ = false := frozen_at h
  have hb := lt_of_block h
  have hb1 : b < w.heap.size + 1 := by omega
  have hb2 : b < w.heap.size + 1 + 1 := by omega
  have hb3 : b < w.heap.size + 1 + 1 + 1 := by omega
  have hcap := cap59
  have H := hide h
  clear h
  go_enter Yba.func76, Yba.ntmps76
  go_wp2
  go_region
  all_goals go_wp2
  go_ret
  exact ⟨⟨_, rfl⟩, logged_of H.out _ _ _⟩

set_option maxRecDepth 100000 in
theorem setDeadline_yes (b : Nat) (x y : Int) (w : World) (h : w.heap[b]? = some (.cells #[.slice none 0 0, .int .i64 0, .bool true] 39)) :
    Calls Yba.prog 76 #[.pointer (some ⟨b, 0, none⟩), .agg #[.int .u64 x, .int .i64 y, .pointer none]] w fun e w' => (∃ v, e = .returned v) ∧ Logged b x y true w w' := by
  have h0 : w.cell? ⟨b, 0, none⟩ = some (.slice none 0 0) := cell_at h rfl
  have h2 : w.cell? ⟨b, 2, none⟩ = some (.bool true) := cell_at h rfl
  have hz : w.frozen? ⟨b, 0, none⟩ = false := frozen_at h
  have hb := lt_of_block h
  have hb1 : b < w.heap.size + 1 := by omega
  have hb2 : b < w.heap.size + 1 + 1 := by omega
  have hb3 : b < w.heap.size + 1 + 1 + 1 := by omega
  have hcap := cap59
  have H := hide h
  clear h
  go_enter Yba.func76, Yba.ntmps76
  go_wp2
  go_region
  all_goals go_wp2
  go_ret
  exact ⟨⟨_, rfl⟩, (logged_of H.out _ _ _).alloc hb _⟩

theorem IsSock.setCell {w : World} {b : Nat} (h : IsSock w b) (a : Addr) (v : Value) : IsSock (w.setCell a v) b := by
  obtain ⟨C, hC⟩ := h
  by_cases e : b = a.block
  · subst e
    exact ⟨_, by simp only [World.setCell, Array.getElem?_modify, if_true, hC, Option.map_some]; rfl⟩
  · exact ⟨C, (hp_setCell_ne e).trans hC⟩
theorem IsSock.alloc {w : World} {b : Nat} (h : IsSock w b) (o : Obj) : IsSock (w.alloc o) b := by
  obtain ⟨C, hC⟩ := h
  exact ⟨C, (hp_alloc_lt (lt_of_block hC)).trans hC⟩
theorem IsSock.drew {w : World} {b : Nat} (h : IsSock w b) : IsSock w.drew b := h
theorem IsSock.setBlock {w : World} {b m : Nat} (h : IsSock w b) (hne : b ≠ m) (o : Obj) : IsSock (setBlock w m o) b := by
  obtain ⟨C, hC⟩ := h
  exact ⟨C, (hp_setBlock_ne hne).trans hC⟩
theorem IsSock.ne_map {w : World} {b m : Nat} {es : Array MapEntry} {k : Nat} (h : IsSock w b) (hm : w.heap[m]? = some (.map es k)) : b ≠ m := by
  rintro rfl
  obtain ⟨C, hC⟩ := h
  rw [hC] at hm
  cases hm
theorem cell_ne_map {w : World} {b m : Nat} {C : Array Value} {t : TypeId} {f : Nat × Nat} {es : Array MapEntry} {k : Nat} (h : w.heap[b]? = some (.cells C t f)) (hm : w.heap[m]? = some (.map es k)) : b ≠ m := by
  rintro rfl
  rw [h] at hm
  cases hm

/-- A Receiver's cells. -/
abbrev RC (n : Int) (c mb : Nat) (wg mu x y : Int) : Array Value :=
  #[.int .i64 n, .pointer none, .chan (some c), .int .u64 wg, .int .u32 0, .int .i32 mu, .int .u32 0, .map (some mb), .int .u64 x, .int .i64 y, .pointer none]

end Go.Proofs.Ybulkdphm
