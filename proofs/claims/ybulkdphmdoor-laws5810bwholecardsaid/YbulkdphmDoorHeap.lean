/-
  SMALL FACTS ON BLOCKS: what a new block, a store into a cell and a new content of a map's block leave of each block; 'Kept S w w'': of the blocks that were there only those that S names may have turned.
-/
import Derived.WalkKit
import Derived.LaidEql
namespace Go.Proofs.YbulkdphmDoor
open Go.RowKit
open Go.ChangeMaps (setBlock)

theorem hp_alloc_lt {w : World} {o : Obj} {b : Nat} (h : b < w.heap.size) : (w.alloc o).heap[b]? = w.heap[b]? := Below.heap_alloc w o b h
theorem hp_alloc_eq (w : World) (o : Obj) : (w.alloc o).heap[w.heap.size]? = some o := by
  show (w.heap.push o)[w.heap.size]? = _
  simp
theorem hp_alloc_at {w : World} {o : Obj} {b : Nat} (h : b = w.heap.size) : (w.alloc o).heap[b]? = some o := by rw [h]; exact hp_alloc_eq w o
theorem hp_setCell_ne {w : World} {a : Addr} {v : Value} {b : Nat} (h : b ≠ a.block) : (w.setCell a v).heap[b]? = w.heap[b]? := Below.heap_setCell w a v b h
theorem hp_setCell_eq {w : World} {b off : Nat} {v : Value} {C : Array Value} {t : TypeId} {f : Nat × Nat} (h : w.heap[b]? = some (.cells C t f)) :
    (w.setCell ⟨b, off, none⟩ v).heap[b]? = some (.cells (C.setIfInBounds off v) t f) := by
  simp [World.setCell, Array.getElem?_modify, h]
theorem hp_setBlock_ne {w : World} {m b : Nat} {o : Obj} (h : b ≠ m) : (setBlock w m o).heap[b]? = w.heap[b]? := by
  show (w.heap.setIfInBounds m o)[b]? = _
  rw [Array.getElem?_setIfInBounds, if_neg (by omega)]
theorem hp_setBlock_eq {w : World} {m : Nat} {o : Obj} (h : m < w.heap.size) : (setBlock w m o).heap[m]? = some o := by
  show (w.heap.setIfInBounds m o)[m]? = _
  rw [Array.getElem?_setIfInBounds, if_pos rfl, if_pos h]
theorem size_setBlock (w : World) (m : Nat) (o : Obj) : (setBlock w m o).heap.size = w.heap.size := by
  show (w.heap.setIfInBounds m o).size = _
  simp
theorem size_setCell (w : World) (a : Addr) (v : Value) : (w.setCell a v).heap.size = w.heap.size := by simp [World.setCell]
theorem lt_of_block {w : World} {b : Nat} {o : Obj} (h : w.heap[b]? = some o) : b < w.heap.size := (Array.getElem?_eq_some_iff.1 h).1
theorem cell_at {w : World} {b off : Nat} {C : Array Value} {t : TypeId} {f : Nat × Nat} (h : w.heap[b]? = some (.cells C t f)) {v : Value} (hv : C[off]? = some v) : w.cell? ⟨b, off, none⟩ = some v := by
  simp [World.cell?, h, hv]
theorem frozen_at {w : World} {b off : Nat} {C : Array Value} {t : TypeId} (h : w.heap[b]? = some (.cells C t (0, 0))) : w.frozen? ⟨b, off, none⟩ = false := by
  simp [World.frozen?, h]

/-- Of the blocks of w only those that S names may have turned; the streams are as they were. -/
structure Kept (S : Nat → Prop) (w w' : World) : Prop where
  os : w'.os = w.os
  tape : w'.tape = w.tape
  output : w'.output = w.output
  size : w.heap.size ≤ w'.heap.size
  block : ∀ k, k < w.heap.size → ¬ S k → w'.heap[k]? = w.heap[k]?

theorem Kept.refl (S : Nat → Prop) (w : World) : Kept S w w := ⟨rfl, rfl, rfl, Nat.le_refl _, fun _ _ _ => rfl⟩
theorem Kept.alloc {S : Nat → Prop} {a w : World} (h : Kept S a w) (o : Obj) : Kept S a (w.alloc o) :=
  ⟨h.os, h.tape, h.output, Nat.le_trans h.size (by simp), fun k hk hs => (hp_alloc_lt (Nat.lt_of_lt_of_le hk h.size)).trans (h.block k hk hs)⟩
theorem Kept.drew {S : Nat → Prop} {a w : World} (h : Kept S a w) : Kept S a w.drew := ⟨h.os, h.tape, h.output, h.size, h.block⟩
theorem Kept.setCell {S : Nat → Prop} {a w : World} (h : Kept S a w) {p : Addr} (hp : S p.block ∨ a.heap.size ≤ p.block) (v : Value) : Kept S a (w.setCell p v) :=
  ⟨h.os, h.tape, h.output, by rw [size_setCell]; exact h.size, fun k hk hs => (hp_setCell_ne (by intro e; subst e; rcases hp with hp | hp; exact hs hp; omega)).trans (h.block k hk hs)⟩
theorem Kept.setBlock {S : Nat → Prop} {a w : World} (h : Kept S a w) {m : Nat} (hp : S m ∨ a.heap.size ≤ m) (o : Obj) : Kept S a (setBlock w m o) :=
  ⟨h.os, h.tape, h.output, by rw [size_setBlock]; exact h.size, fun k hk hs => (hp_setBlock_ne (by intro e; subst e; rcases hp with hp | hp; exact hs hp; omega)).trans (h.block k hk hs)⟩
theorem Kept.trans {S : Nat → Prop} {a b c : World} (h : Kept S a b) (k : Kept S b c) : Kept S a c :=
  ⟨k.os.trans h.os, k.tape.trans h.tape, k.output.trans h.output, Nat.le_trans h.size k.size, fun i hi hs => (k.block i (Nat.lt_of_lt_of_le hi h.size) hs).trans (h.block i hi hs)⟩
theorem Kept.mono {S T : Nat → Prop} {a b : World} (h : Kept S a b) (hST : ∀ k, S k → T k) : Kept T a b := ⟨h.os, h.tape, h.output, h.size, fun k hk hs => h.block k hk (fun hh => hs (hST k hh))⟩
/-- .. from below B on nothing has turned: 'Below'. -/
theorem Kept.below {S : Nat → Prop} {a b : World} (h : Kept S a b) {B : Nat} (hB : B ≤ a.heap.size) (hS : ∀ k, S k → B ≤ k) : Below B a b :=
  ⟨h.os, h.tape, h.output, h.size, fun k hk => h.block k (by omega) (fun hh => by have := hS k hh; omega)⟩

end Go.Proofs.YbulkdphmDoor
