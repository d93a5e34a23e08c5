/-
  The law's own memory: what lies where behind each round of the first loop, ahead of the call of open and behind it.
-/
import Derived.Test.YbulkdphmRows
import Derived.WalkKit
import Derived.ProofKit
import Derived.OpenShut
import Derived.WalkLawsBesides
import Derived.BigQuiet
import Derived.Deep.RegionWith
import Derived.Deep.OwnRows
import Derived.Test.YbulkdphmOpen
namespace Go.Proofs.Ybulkdphm
open Go.ChangeShapes Go.WideShapes Go.ChangeAt Go.RowKit
open Go.ChangeMaps (setBlock)
set_option linter.unusedVariables false

/-- What is in the map behind k rounds; the row of the other sockets behind i of k rounds. -/
def ent (c j : Nat) : MapEntry := { key := SK (c + j), val := .bool true, born := j }
def ents (c k : Nat) : Array MapEntry := ((List.range k).map (ent c)).toArray
def rowAt (c i j : Nat) : Value := if j < i then .pointer (some ⟨c + j, 0, none⟩) else .pointer none
def rowA (c k i : Nat) : Array Value := ((List.range k).map (rowAt c i)).toArray

theorem ents_zero (c : Nat) : ents c 0 = #[] := rfl
theorem ents_succ (c k : Nat) : ents c (k + 1) = (ents c k).push (ent c k) := by
  simp [ents, List.range_succ]
theorem ents_mem {c k : Nat} {e : MapEntry} (h : e ∈ (ents c k).toList) : ∃ j, j < k ∧ e = ent c j := by
  simp [ents] at h
  obtain ⟨j, hj, rfl⟩ := h
  exact ⟨j, hj, rfl⟩
theorem ents_split {c k j : Nat} (h : j < k) : ∃ pre post, (ents c k).toList = pre ++ ent c j :: post ∧ ∀ e ∈ pre, ∃ i, i < j ∧ e = ent c i := by
  refine ⟨(List.range j).map (ent c), ((List.range' (j + 1) (k - (j + 1))).map (ent c)), ?_, ?_⟩
  · have e : List.range k = List.range j ++ j :: List.range' (j + 1) (k - (j + 1)) := by
      rw [List.range_eq_range', List.range_eq_range', ← List.range'_succ, show List.range' 0 j ++ List.range' j (k - (j + 1) + 1) = List.range' 0 j ++ List.range' (0 + j) (k - (j + 1) + 1) from by rw [Nat.zero_add], List.range'_append_1]
      congr 1
      omega
    simp [ents, e]
  · intro e he
    simp at he
    obtain ⟨i, hi, rfl⟩ := he
    exact ⟨i, hi, rfl⟩
theorem rowA_at {c k i j : Nat} (h : j < k) : (rowA c k i)[j]? = some (rowAt c i j) := by
  simp [rowA, h]
theorem rowA_set {c k i : Nat} (h : i < k) : (rowA c k i).setIfInBounds i (.pointer (some ⟨c + i, 0, none⟩)) = rowA c k (i + 1) := by
  apply Array.ext'
  apply List.ext_getElem?
  intro j
  by_cases hj : j < k
  · by_cases e : i = j
    · subst e
      simp [rowA, hj, rowAt]
    · have e2 : (j < i + 1) ↔ (j < i) := by omega
      simp [rowA, hj, rowAt, e, e2]
  · simp [rowA, hj]
theorem rowA_made (c k : Nat) : madeCells #[.pointer none] k = rowA c k 0 := by
  apply Array.ext'
  apply List.ext_getElem?
  intro j
  by_cases hj : j < k
  · simp [rowA, hj, rowAt, madeCells, Nat.mod_one]
  · simp [rowA, hj, madeCells]

structure St (ob rb mb ch k : Nat) (n x y : Int) (w wr : World) (i : Nat) : Prop where
  below : Below w.heap.size w wr
  size : wr.heap.size = ob + 1 + i
  map : wr.heap[mb]? = some (.map (ents (ob + 1) i) i)
  recv : wr.heap[rb]? = some (.cells (RC n ch mb 0 0 x y) 61)
  row : wr.heap[ob]? = some (.cells (rowA (ob + 1) k i) 36)
  socks : ∀ j, j < i → wr.heap[ob + 1 + j]? = some (.cells #[.slice none 0 0, .int .i64 0, .bool false] 39)

/-- One round of the first loop. -/
theorem St.round {ob rb mb ch k : Nat} {n x y : Int} {w wr : World} {i : Nat} (h : St ob rb mb ch k n x y w wr i) (hi : i < k) (hw : w.heap.size ≤ mb) (hw2 : w.heap.size ≤ ob) (hr : rb < ob) (hm : mb < ob) :
    St ob rb mb ch k n x y w (setBlock ((wr.setCell ⟨ob, i, none⟩ (.pointer (some ⟨ob + 1 + i, 0, none⟩))).alloc (.cells #[.slice none 0 0, .int .i64 0, .bool false] 39)) mb
      (.map ((ents (ob + 1) i).push { key := SK (ob + 1 + i), val := .bool true, born := i }) (i + 1))) (i + 1) := by
  have hs := h.size
  have hrm : rb ≠ mb := cell_ne_map h.recv h.map
  refine ⟨?_, ?_, ?_, ?_, ?_, ?_⟩
  · have b1 := ((h.below.setCell (p := ⟨ob, i, none⟩) hw2 (.pointer (some ⟨ob + 1 + i, 0, none⟩))).alloc (by simp; have := h.below.size; omega) (.cells #[.slice none 0 0, .int .i64 0, .bool false] 39))
    exact ⟨b1.os, b1.tape, b1.output, by rw [size_setBlock]; exact b1.size, fun j hj => (hp_setBlock_ne (by omega)).trans (b1.block j hj)⟩
  · rw [size_setBlock]; simp [hs]; omega
  · rw [hp_setBlock_eq (by simp [hs]; omega), ents_succ]; rfl
  · rw [hp_setBlock_ne hrm, hp_alloc_lt (by rw [size_setCell]; omega), hp_setCell_ne (by simp; omega)]; exact h.recv
  · rw [hp_setBlock_ne (by omega), hp_alloc_lt (by rw [size_setCell]; omega), hp_setCell_eq h.row, rowA_set hi]
  · intro j hj
    rw [hp_setBlock_ne (by omega)]
    by_cases e : j = i
    · subst e
      exact hp_alloc_at (by rw [size_setCell]; omega)
    · rw [hp_alloc_lt (by rw [size_setCell]; omega), hp_setCell_ne (by simp; omega)]
      exact h.socks j (by omega)

theorem St.round' {ob rb mb ch k : Nat} {n x y : Int} {w wr : World} {i : Nat} (h : St ob rb mb ch k n x y w wr i) (hi : i < k) (hw : w.heap.size ≤ mb) (hw2 : w.heap.size ≤ ob) (hr : rb < ob) (hm : mb < ob) :
    St ob rb mb ch k n x y w (setBlock ((wr.setCell ⟨ob, i, none⟩ (.pointer (some ⟨wr.heap.size, 0, none⟩))).alloc (.cells #[.slice none 0 0, .int .i64 0, .bool false] 39)) mb
      (.map ((ents (ob + 1) i).push { key := SK wr.heap.size, val := .bool true, born := i }) (i + 1))) (i + 1) := by
  rw [h.size]
  exact h.round hi hw hw2 hr hm

theorem St.keys {ob rb mb ch k : Nat} {n x y : Int} {w wr : World} {i : Nat} (h : St ob rb mb ch k n x y w wr i) : ∀ e ∈ (ents (ob + 1) i).toList, ∃ c, e.key = SK c ∧ wr.heap.size ≠ c ∧ IsSock wr c := fun e he => by
  obtain ⟨j, hj, rfl⟩ := ents_mem he
  exact ⟨ob + 1 + j, rfl, by have := h.size; omega, _, h.socks j hj⟩

theorem St.put {ob rb mb ch k : Nat} {n x y : Int} {w wr : World} {i : Nat} (h : St ob rb mb ch k n x y w wr i) (hi : i < k) (hm : mb < ob) :
    (Instr.mapUpdate 56 (.map (some mb)) (SK wr.heap.size) (.bool true)).run Yba.prog ((wr.setCell ⟨ob, i, none⟩ (.pointer (some ⟨wr.heap.size, 0, none⟩))).alloc (.cells #[.slice none 0 0, .int .i64 0, .bool false] 39)) =
      .ok () (setBlock ((wr.setCell ⟨ob, i, none⟩ (.pointer (some ⟨wr.heap.size, 0, none⟩))).alloc (.cells #[.slice none 0 0, .int .i64 0, .bool false] 39)) mb
      (.map ((ents (ob + 1) i).push { key := SK wr.heap.size, val := .bool true, born := i }) (i + 1))) := by
  refine run_put_new ?_ ⟨_, hp_alloc_at (by rw [size_setCell])⟩ (fun e he => ?_) _
  · rw [hp_alloc_lt (by rw [size_setCell]; have := h.size; omega), hp_setCell_ne (by simp; omega)]; exact h.map
  · obtain ⟨c, h1, h2, h3⟩ := h.keys e he
    exact ⟨c, h1, h2, (h3.setCell _ _).alloc _⟩

theorem info36' : (Yba.prog.info? 36).map (fun i => (i.zero, i.size, i.bytes)) = some (some (.pointer none), 1, 8) := by kernel_rfl

/-- The world as 'open' is called in it, and behind it: wg: the WaitGroup's word; mu: the lock's; L: the socket's log; M, m: the map. -/
structure Af (ob rb mb ch db sb k : Nat) (n x y wg mu : Int) (fail : Bool) (L : Value) (M : Array MapEntry) (m : Nat) (w wr : World) : Prop where
  below : Below w.heap.size w wr
  recv : wr.heap[rb]? = some (.cells (RC n ch mb wg mu x y) 61)
  map : wr.heap[mb]? = some (.map M m)
  row : wr.heap[ob]? = some (.cells (rowA (ob + 1) k k) 36)
  socks : ∀ j, j < k → wr.heap[ob + 1 + j]? = some (.cells #[.slice none 0 0, .int .i64 0, .bool false] 39)
  dl : wr.heap[db]? = some (.cells #[.int .u64 x, .int .i64 y, .pointer none] 59)
  sock : wr.heap[sb]? = some (.cells #[L, .int .i64 0, .bool fail] 39)

theorem St.ready {ob rb mb ch k : Nat} {n : Int} {w wr : World} (h : St ob rb mb ch k n 0 0 w wr k) (hw : w.heap.size ≤ rb) (hr : rb < ob) (hm : mb < ob) (hrm : rb ≠ mb) (C1 C2 : Array Value) (x y : Int) (fail : Bool) :
    Af ob rb mb ch (wr.heap.size + 1 + 1) (wr.heap.size + 1 + 1 + 1) k n x y 0 0 fail (.slice none 0 0) (ents (ob + 1) k) k w
      (((((((wr.setCell ⟨rb, 8, none⟩ (.int .u64 x)).setCell ⟨rb, 9, none⟩ (.int .i64 y)).setCell ⟨rb, 10, none⟩ (.pointer none)).alloc (.cells C1 59)).alloc (.cells C2 59)).alloc
        (.cells #[.int .u64 x, .int .i64 y, .pointer none] 59)).alloc (.cells #[.slice none 0 0, .int .i64 0, .bool fail] 39)) := by
  have hs := h.size
  have b0 := h.below.size
  have key : ∀ b, b < wr.heap.size → b ≠ rb → (((((((wr.setCell ⟨rb, 8, none⟩ (.int .u64 x)).setCell ⟨rb, 9, none⟩ (.int .i64 y)).setCell ⟨rb, 10, none⟩ (.pointer none)).alloc (.cells C1 59)).alloc (.cells C2 59)).alloc
        (.cells #[.int .u64 x, .int .i64 y, .pointer none] 59)).alloc (.cells #[.slice none 0 0, .int .i64 0, .bool fail] 39)).heap[b]? = wr.heap[b]? := by
    intro b hb hne
    rw [hp_alloc_lt (by simp; omega), hp_alloc_lt (by simp; omega), hp_alloc_lt (by simp; omega), hp_alloc_lt (by simp; omega), hp_setCell_ne hne, hp_setCell_ne hne, hp_setCell_ne hne]
  refine ⟨?_, ?_, ?_, ?_, ?_, ?_, ?_⟩
  · exact (((((((h.below.setCell (p := ⟨rb, 8, none⟩) hw _).setCell (p := ⟨rb, 9, none⟩) hw _).setCell (p := ⟨rb, 10, none⟩) hw _).alloc (by simp; omega) _).alloc (by simp; omega) _).alloc (by simp; omega) _).alloc (by simp; omega) _)
  · rw [hp_alloc_lt (by simp; omega), hp_alloc_lt (by simp; omega), hp_alloc_lt (by simp; omega), hp_alloc_lt (by simp; omega), hp_setCell_eq (hp_setCell_eq (hp_setCell_eq h.recv))]
    rfl
  · rw [key mb (by omega) (by omega)]; exact h.map
  · rw [key ob (by omega) (by omega)]; exact h.row
  · intro j hj
    rw [key _ (by omega) (by omega)]; exact h.socks j hj
  · rw [hp_alloc_lt (by simp), hp_alloc_at (by simp)]
  · rw [hp_alloc_at (by simp)]

theorem Af.keys {ob rb mb ch db sb k : Nat} {n x y wg mu : Int} {fail : Bool} {L : Value} {M : Array MapEntry} {m : Nat} {w wr : World} (h : Af ob rb mb ch db sb k n x y wg mu fail L M m w wr) (hs : ob + 1 + k ≤ sb) :
    ∀ e ∈ (ents (ob + 1) k).toList, ∃ c, e.key = SK c ∧ sb ≠ c ∧ IsSock wr c := fun e he => by
  obtain ⟨j, hj, rfl⟩ := ents_mem he
  exact ⟨ob + 1 + j, rfl, by omega, _, h.socks j hj⟩

theorem Below.of_kept {S : Nat → Prop} {B : Nat} {w a b : World} (h : Below B w a) (k : Kept S a b) (hB : B ≤ a.heap.size) (hS : ∀ i, S i → B ≤ i) : Below B w b := h.trans (k.below hB hS)

/-- The lock taken and let go: the world stands as it stood. -/
theorem Af.lock {ob rb mb ch db sb k : Nat} {n x y wg mu : Int} {fail : Bool} {L : Value} {M : Array MapEntry} {m : Nat} {w wr : World} (h : Af ob rb mb ch db sb k n x y wg mu fail L M m w wr) (mu' : Int)
    (hw : w.heap.size ≤ rb) (hr : rb < ob) (hd : ob + 1 + k ≤ db) (hds : db < sb) : Af ob rb mb ch db sb k n x y wg mu' fail L M m w (wr.setCell ⟨rb, 5, none⟩ (.int .i32 mu')) := by
  have hrm := cell_ne_map h.recv h.map
  exact ⟨h.below.setCell (p := ⟨rb, 5, none⟩) hw _, (hp_setCell_eq h.recv).trans rfl, (hp_setCell_ne (Ne.symm hrm)).trans h.map, (hp_setCell_ne (by simp; omega)).trans h.row,
    fun j hj => (hp_setCell_ne (by simp; omega)).trans (h.socks j hj), (hp_setCell_ne (by simp; omega)).trans h.dl, (hp_setCell_ne (by simp; omega)).trans h.sock⟩

theorem Af.open_free {ob rb mb ch db sb k : Nat} {n x y : Int} {fail : Bool} {M : Array MapEntry} {m : Nat} {L : Value} {w wr w' : World} (h : Af ob rb mb ch db sb k n x y 0 0 fail L M m w wr)
    (hw : w.heap.size ≤ rb) (hwm : w.heap.size ≤ mb) (hr : rb < ob) (hm : mb < ob) (hd : ob + 1 + k ≤ db) (hds : db < sb) {wg : Int} {M' : Array MapEntry} {m' : Nat}
    (kp : Kept (fun b => b = rb ∨ b = mb) wr w') (h1 : w'.heap[rb]? = some (.cells (RC n ch mb wg 0 x y) 61)) (h2 : w'.heap[mb]? = some (.map M' m')) : Af ob rb mb ch db sb k n x y wg 0 fail L M' m' w w' := by
  have hB := h.below.size
  refine ⟨Below.of_kept h.below kp hB (fun i hi => by rcases hi with rfl | rfl <;> assumption), h1, h2, ?_, ?_, ?_, ?_⟩
  · exact (kp.block _ (lt_of_block h.row) (by omega)).trans h.row
  · intro j hj
    exact (kp.block _ (lt_of_block (h.socks j hj)) (by omega)).trans (h.socks j hj)
  · exact (kp.block _ (lt_of_block h.dl) (by omega)).trans h.dl
  · exact (kp.block _ (lt_of_block h.sock) (by omega)).trans h.sock

theorem Af.open_conn {ob rb mb ch db sb k : Nat} {n x y : Int} {fail : Bool} {M : Array MapEntry} {m : Nat} {L : Value} {w wr w' : World} (h : Af ob rb mb ch db sb k n x y 0 0 fail L M m w wr)
    (hw : w.heap.size ≤ rb) (hwm : w.heap.size ≤ mb) (hr : rb < ob) (hm : mb < ob) (hd : ob + 1 + k ≤ db) (hds : db < sb) {wg : Int} {M' : Array MapEntry} {m' : Nat} {L' : Value}
    (kp : Kept (fun b => b = rb ∨ b = mb ∨ b = sb) wr w') (h1 : w'.heap[rb]? = some (.cells (RC n ch mb wg 0 x y) 61)) (h2 : w'.heap[mb]? = some (.map M' m'))
    (h3 : w'.heap[sb]? = some (.cells #[L', .int .i64 0, .bool fail] 39)) : Af ob rb mb ch db sb k n x y wg 0 fail L' M' m' w w' := by
  have hB := h.below.size
  refine ⟨Below.of_kept h.below kp hB (fun i hi => by rcases hi with rfl | rfl | rfl <;> omega), h1, h2, ?_, ?_, ?_, h3⟩
  · exact (kp.block _ (lt_of_block h.row) (by omega)).trans h.row
  · intro j hj
    exact (kp.block _ (lt_of_block (h.socks j hj)) (by omega)).trans (h.socks j hj)
  · exact (kp.block _ (lt_of_block h.dl) (by omega)).trans h.dl

end Go.Proofs.Ybulkdphm
