/-
  Rows of bytes.
-/
import Derived.Test.YbulkdphmDoorRows
import Derived.WalkKit
import Derived.ProofKit
import Derived.OpenShut
import Derived.WalkLawsBesides
import Derived.BigQuiet
import Derived.Laws.BitsAllLaws
import Derived.Laws.StructEq
import Derived.Outline
import Derived.Test.YbulkdphmDoorHeap
namespace Go.Proofs.YbulkdphmDoor
open Go.ChangeShapes Go.WideShapes Go.ChangeAt Go.RowKit
open Go.ChangeMaps (setBlock)
set_option linter.unusedVariables false

theorem hide {p : Prop} (h : p) : Hid p := h

/-- n bytes, from the cell off of the block b on. -/
structure Bytes (w : World) (b off n : Nat) (xs : List Int) : Prop where
  len : n = xs.length
  byte : ∀ x ∈ xs, 0 ≤ x ∧ x < 256
  cell : ∀ i, i < n → w.cell? ⟨b, off + i, none⟩ = some (.int .u8 (xs.getD i 0))

theorem Bytes.at {w : World} {b off n : Nat} {xs : List Int} (h : Bytes w b off n xs) {i : Nat} (hi : i < n) : 0 ≤ xs.getD i 0 ∧ xs.getD i 0 < 256 := by
  have hl : i < xs.length := by rw [← h.len]; exact hi
  have e : xs.getD i 0 = xs[i] := by simp [List.getD, hl]
  rw [e]
  exact h.byte _ (List.getElem_mem hl)
theorem Bytes.lt {w : World} {b off n : Nat} {xs : List Int} (h : Bytes w b off n xs) (hn : 0 < n) : b < w.heap.size := World.block_lt_of_cell? w _ (h.cell 0 hn)
theorem Bytes.on {w w' : World} {b off n : Nat} {xs : List Int} (h : Bytes w b off n xs) (hb : Below w.heap.size w w') : Bytes w' b off n xs :=
  ⟨h.len, h.byte, fun i hi => (hb.cell (p := ⟨b, off + i, none⟩) (h.lt (by omega))).trans (h.cell i hi)⟩

/-- Where a slice of a slice begins. -/
def offAt (m l off : Nat) : Nat := if m = l then off else off + l
theorem offAt_ne {m l off : Nat} (h : m ≠ l) : offAt m l off = off + l := if_neg h
theorem offAt_zero (m off : Nat) : offAt m 0 off = off := by
  unfold offAt
  split <;> rfl
theorem sliced_at (b off l h m : Nat) : sliced (some ⟨b, off, none⟩) l h m 1 = .slice (some ⟨b, offAt m l off, none⟩) (h - l) (m - l) := by
  unfold sliced offAt
  split
  · rfl
  · simp [Addr.add]
theorem Bytes.sub {w : World} {b off n : Nat} {xs : List Int} (hb : Bytes w b off n xs) (l h m : Nat) (h1 : l ≤ h) (h2 : h ≤ n) (h3 : h ≤ m) : Bytes w b (offAt m l off) (h - l) ((xs.take h).drop l) := by
  have hl := hb.len
  refine ⟨by simp; omega, fun x hx => hb.byte x (List.mem_of_mem_take (List.mem_of_mem_drop hx)), fun i hi => ?_⟩
  rw [offAt_ne (by omega), Nat.add_assoc, hb.cell (l + i) (by omega)]
  congr 2
  simp [List.getD, List.getElem?_drop, show l + i < h by omega]

def s8 (x : Int) : Int := if x < 128 then x else x - 256
def uF (a : Int) (xs : List Int) : Int := xs.foldl (fun a y => a * 256 + y) a
def sI (xs : List Int) : Int := match xs with
  | [] => 0
  | x :: xs => uF (s8 x) xs
theorem uF_lin (a : Int) (xs : List Int) : uF a xs = a * 256 ^ xs.length + uF 0 xs := by
  unfold uF
  induction xs generalizing a with
  | nil => simp
  | cons x xs ih =>
    simp only [List.foldl_cons, List.length_cons]
    rw [ih (a * 256 + x), ih (0 * 256 + x), Int.pow_succ]
    generalize List.foldl (fun a y => a * 256 + y) 0 xs = U
    rw [Int.add_mul, Int.add_mul, Int.zero_mul, Int.zero_mul, Int.zero_add, Int.mul_assoc, Int.mul_comm 256, Int.add_assoc]
theorem uF_bound (xs : List Int) (h : ∀ x ∈ xs, 0 ≤ x ∧ x < 256) : 0 ≤ uF 0 xs ∧ uF 0 xs < 256 ^ xs.length := by
  suffices hh : ∀ a : Int, 0 ≤ a → 0 ≤ uF a xs ∧ uF a xs < (a + 1) * 256 ^ xs.length by simpa using hh 0 (Int.le_refl _)
  induction xs with
  | nil => intro a ha; unfold uF; simp; omega
  | cons x xs ih =>
    intro a ha
    have hx := h x (by simp)
    have := ih (fun y hy => h y (by simp [hy])) (a * 256 + x) (by omega)
    refine ⟨this.1, Int.lt_of_lt_of_le this.2 ?_⟩
    rw [List.length_cons, Int.pow_succ, Int.mul_comm (256 ^ xs.length), ← Int.mul_assoc]
    exact Int.mul_le_mul_of_nonneg_right (by omega) (Int.le_of_lt (Int.pow_pos (by decide)))

theorem elem22 : Ybad.prog.underlying 22 = some (.slice (Ybad.prog.elem 22)) := by kernel_rfl
theorem size22 (w : World) : (sizeOf (Ybad.prog.elem 22)).run Ybad.prog w = .ok 1 w := by kernel_rfl
/-- s[l:] -/
theorem cut_lo (b off n c l : Nat) (k : IntKind) (h : l ≤ n) (W : World) : (Instr.sliceAt 22 (.slice (some ⟨b, off, none⟩) n c) (some (.int k (l : Int))) none none).run Ybad.prog W = .ok (.slice (some ⟨b, offAt c l off, none⟩) (n - l) (c - l)) W := by
  rw [run_sliceAt_slice W 22 _ _ _ _ elem22, run_slice_l W 22 _ n c elem22 k l (by omega) (by omega), size22]
  simp only [Result.andThen_ok, Int.toNat_natCast, sliced_at]
/-- s[:h] -/
theorem cut_hi (b off n c h : Nat) (k : IntKind) (hh : h ≤ c) (W : World) : (Instr.sliceAt 22 (.slice (some ⟨b, off, none⟩) n c) none (some (.int k (h : Int))) none).run Ybad.prog W = .ok (.slice (some ⟨b, off, none⟩) h c) W := by
  rw [run_sliceAt_slice W 22 _ _ _ _ elem22, run_slice_h W 22 _ n c elem22 k h (by omega) (by omega), size22]
  simp only [Result.andThen_ok, Int.toNat_natCast, sliced_at, offAt_zero, Nat.sub_zero]
/-- s[l:h] -/
theorem cut_both (b off n c l h : Nat) (k k' : IntKind) (h1 : l ≤ h) (h2 : h ≤ c) (W : World) : (Instr.sliceAt 22 (.slice (some ⟨b, off, none⟩) n c) (some (.int k (l : Int))) (some (.int k' (h : Int))) none).run Ybad.prog W = .ok (.slice (some ⟨b, offAt c l off, none⟩) (h - l) (c - l)) W := by
  rw [run_sliceAt_slice W 22 _ _ _ _ elem22, run_slice_lh W 22 _ n c elem22 k k' l h (by omega) (by omega) (by omega), size22]
  simp only [Result.andThen_ok, Int.toNat_natCast, sliced_at]

theorem wrap_s8 (x : Int) (h : 0 ≤ x ∧ x < 256) : IntKind.i8.wrap x = s8 x := by
  simp [IntKind.wrap, IntKind.bits, IntKind.signed]
  unfold s8
  split <;> split <;> omega

/-- n<<8 | c, signed. -/
theorem or8_i64 (m y : Int) (h0 : 0 ≤ y) (h1 : y < 256) (h2 : -36028797018963968 ≤ m) (h3 : m < 36028797018963968) : bits .or .i64 (wrap64 (m * 256)) y = m * 256 + y := by
  have e0 : wrap64 (m * 256) = m * 256 := by unfold wrap64; omega
  rw [e0]
  obtain ⟨Y, rfl⟩ := Int.eq_ofNat_of_zero_le h0
  obtain ⟨X, hX⟩ : ∃ X : Nat, (X : Int) = (m * 256) % 18446744073709551616 := ⟨((m * 256) % 18446744073709551616).toNat, by omega⟩
  show IntKind.i64.wrap ((BitVec.ofInt 64 (m * 256) ||| BitVec.ofInt 64 (Y : Int)).toNat : Int) = _
  have a1 : (BitVec.ofInt 64 (m * 256)).toNat = X := by
    rw [BitVec.toNat_ofInt]
    omega
  rw [BitVec.toNat_or, a1, ofInt_u64 Y (by omega), nat_join 8 X Y (by omega) (by omega), IntKind.wrap_i64]
  omega
/-- u<<8 | c -/
theorem or8_u64 (m y : Int) (h0 : 0 ≤ y) (h1 : y < 256) (h2 : 0 ≤ m) (h3 : m < 72057594037927936) : bits .or .u64 (IntKind.u64.wrap (m * 256)) y = m * 256 + y := by
  have e0 : IntKind.u64.wrap (m * 256) = m * 256 := by rw [IntKind.wrap_u64]; omega
  rw [e0]
  obtain ⟨Y, rfl⟩ := Int.eq_ofNat_of_zero_le h0
  obtain ⟨X, rfl⟩ := Int.eq_ofNat_of_zero_le h2
  rw [show (X : Int) * 256 = ((X * 256 : Nat) : Int) by omega, u64_or_nat (X * 256) Y (by omega) (by omega), nat_join 8 _ Y (by omega) (by omega)]
  omega
/-- u<<7 | c -/
theorem or7_u64 (m y : Int) (h0 : 0 ≤ y) (h1 : y < 128) (h2 : 0 ≤ m) (h3 : m < 144115188075855872) : bits .or .u64 (IntKind.u64.wrap (m * 128)) y = m * 128 + y := by
  have e0 : IntKind.u64.wrap (m * 128) = m * 128 := by rw [IntKind.wrap_u64]; omega
  rw [e0]
  obtain ⟨Y, rfl⟩ := Int.eq_ofNat_of_zero_le h0
  obtain ⟨X, rfl⟩ := Int.eq_ofNat_of_zero_le h2
  rw [show (X : Int) * 128 = ((X * 128 : Nat) : Int) by omega, u64_or_nat (X * 128) Y (by omega) (by omega), nat_join 7 _ Y (by omega) (by omega)]
  omega
theorem getD_drop (xs : List Int) (i : Nat) (h : i < xs.length) : xs.drop i = xs.getD i 0 :: xs.drop (i + 1) := by
  rw [List.drop_eq_getElem_cons h]
  congr 1
  simp [List.getD, h]
theorem uF_step (a : Int) (xs : List Int) (i : Nat) (h : i < xs.length) : uF (a * 256 + xs.getD i 0) (xs.drop (i + 1)) = uF a (xs.drop i) := by
  rw [getD_drop xs i h]
  rfl
theorem uF_nil (a : Int) (xs : List Int) (i : Nat) (h : xs.length ≤ i) : uF a (xs.drop i) = a := by
  rw [List.drop_eq_nil_of_le h]
  rfl
theorem pow256 {j k : Nat} (h : j ≤ k) : (256 : Int) ^ j ≤ 256 ^ k := by
  induction k with
  | zero => rw [show j = 0 by omega]; exact Int.le_refl _
  | succ k ih =>
    by_cases e : j = k + 1
    · rw [e]; exact Int.le_refl _
    · have h1 := ih (by omega)
      have h2 : (0 : Int) < 256 ^ k := Int.pow_pos (by decide)
      rw [Int.pow_succ]
      omega
end Go.Proofs.YbulkdphmDoor
