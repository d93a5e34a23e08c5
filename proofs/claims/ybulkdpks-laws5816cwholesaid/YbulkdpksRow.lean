/-
  Rows whose jobs go round, rows of pairs, the crew's cells.
-/
import Derived.Test.YbulkdpksRows
import Derived.WalkKit
import Derived.ProofKit
import Derived.OpenShut
import Derived.WalkLawsBesides
import Derived.BigQuiet
import Derived.Laws.BitsAllLaws
import Derived.Laws.StructEq
import Derived.Outline
import Derived.Test.YbulkdpksHeap
import Derived.Test.YbulkdpksJobs
namespace Go.Proofs.Ybulkdpks
open Go.ChangeShapes Go.WideShapes Go.ChangeAt Go.RowKit
open Go.ChangeMaps (setBlock)
set_option linter.unusedVariables false

theorem ring_mod (e x L : Nat) (hL : L = 2 ^ e) (he : e ≤ 9) (hx : x ≤ 4096) : bits .and .i64 (x : Int) ((L : Int) - 1) = ((x % L : Nat) : Int) := by
  have h0 : 1 ≤ L := by rw [hL]; exact Nat.one_le_two_pow
  have hle : L ≤ 512 := by rw [hL]; exact Nat.le_trans (Nat.pow_le_pow_right (by decide) he) (by decide)
  have hm : x % L ≤ x := Nat.mod_le _ _
  have h1 : ((L : Int) - 1) = ((L - 1 : Nat) : Int) := by omega
  rw [h1]
  show IntKind.i64.wrap ((BitVec.ofInt 64 (x : Int) &&& BitVec.ofInt 64 ((L - 1 : Nat) : Int)).toNat : Int) = _
  have key : x &&& (L - 1) = x % L := by rw [hL]; exact Nat.and_two_pow_sub_one_eq_mod x e
  rw [BitVec.toNat_and, ofInt_u64 x (by omega), ofInt_u64 _ (by omega), key, IntKind.wrap_i64]
  omega

/-- A row of L places whose k jobs begin at h. -/
def Row (L h k : Nat) : Prop := (L = 0 ∧ h = 0 ∧ k = 0) ∨ ∃ e, 3 ≤ e ∧ e ≤ 9 ∧ L = 2 ^ e ∧ h < L ∧ k ≤ L

theorem Row.le {L h k : Nat} (r : Row L h k) : L ≤ 512 ∧ h ≤ L ∧ k ≤ L := by
  rcases r with ⟨rfl, rfl, rfl⟩ | ⟨e, h3, h9, hL, hh, hk⟩
  · omega
  · have : L ≤ 512 := by rw [hL]; exact Nat.le_trans (Nat.pow_le_pow_right (by decide) h9) (by decide)
    omega
/-! ### rows of pairs -/
def pcell (a b : Nat → Value) (q : Nat) : Value := if q % 2 = 0 then a (q / 2) else b (q / 2)
def pairs (a b : Nat → Value) (n : Nat) : List Value := (List.range (n * 2)).map (pcell a b)
theorem pairs_length (a b : Nat → Value) (n : Nat) : (pairs a b n).length = n * 2 := by simp [pairs]
theorem pairs_get (a b : Nat → Value) (n q : Nat) (h : q < n * 2) : (pairs a b n)[q]? = some (pcell a b q) := by simp [pairs, h]
theorem pairs_none (a b : Nat → Value) (n q : Nat) (h : n * 2 ≤ q) : (pairs a b n)[q]? = none := by simp [pairs]; omega
theorem pcell_even (a b : Nat → Value) (p : Nat) : pcell a b (p * 2) = a p := by
  unfold pcell
  rw [if_pos (by omega), show p * 2 / 2 = p by omega]
theorem pcell_odd (a b : Nat → Value) (p : Nat) : pcell a b (p * 2 + 1) = b p := by
  unfold pcell
  rw [if_neg (by omega), show (p * 2 + 1) / 2 = p by omega]
theorem pairs_even (a b : Nat → Value) (n p : Nat) (h : p < n) : (pairs a b n).toArray[p * 2]? = some (a p) := by
  rw [List.getElem?_toArray, pairs_get _ _ _ _ (by omega), pcell_even]
theorem pairs_odd (a b : Nat → Value) (n p : Nat) (h : p < n) : (pairs a b n).toArray[p * 2 + 1]? = some (b p) := by
  rw [List.getElem?_toArray, pairs_get _ _ _ _ (by omega), pcell_odd]
theorem pairs_ext {a b c d : Nat → Value} {n : Nat} (h : ∀ p, p < n → a p = c p ∧ b p = d p) : pairs a b n = pairs c d n := by
  apply List.map_congr_left
  intro q hq
  have := List.mem_range.1 hq
  unfold pcell
  rw [(h (q / 2) (by omega)).1, (h (q / 2) (by omega)).2]
theorem pairs_set (a b : Nat → Value) (n p : Nat) (x y : Value) (h : p < n) :
    ((pairs a b n).toArray.setIfInBounds (p * 2) x).setIfInBounds (p * 2 + 1) y = (pairs (fun q => if q = p then x else a q) (fun q => if q = p then y else b q) n).toArray := by
  apply Array.ext'
  apply List.ext_getElem?
  intro q
  simp only [Array.toList_setIfInBounds, List.getElem?_set, List.length_set, pairs_length]
  by_cases hq : q < n * 2
  · rw [pairs_get _ _ _ _ hq, pairs_get _ _ _ _ hq]
    by_cases h1 : p * 2 + 1 = q
    · subst h1
      rw [if_pos rfl, if_pos (by omega), pcell_odd, if_pos rfl]
    · rw [if_neg h1]
      by_cases h2 : p * 2 = q
      · subst h2
        rw [if_pos rfl, if_pos (by omega), pcell_even, if_pos rfl]
      · rw [if_neg h2]
        unfold pcell
        split
        · dsimp only
          rw [if_neg (by omega)]
        · dsimp only
          rw [if_neg (by omega)]
  · rw [pairs_none _ _ _ _ (by omega), pairs_none _ _ _ _ (by omega)]
    have h1 : ¬ p * 2 + 1 = q := by omega
    have h2 : ¬ p * 2 = q := by omega
    rw [if_neg h1, if_neg h2]
theorem made_pairs (x y : Value) (n : Nat) : madeCells #[x, y] (n * 2) = (pairs (fun _ => x) (fun _ => y) n).toArray := by
  apply Array.ext'
  apply List.ext_getElem?
  intro q
  simp only [madeCells, Array.toList_map, List.getElem?_map]
  by_cases h : q < n * 2
  · rw [pairs_get _ _ _ _ h]
    simp [h, pcell]
    have : q % 2 = 0 ∨ q % 2 = 1 := by omega
    rcases this with h2 | h2 <;> simp [h2]
  · rw [pairs_none _ _ _ _ (by omega)]
    simp [h]

/-- A row of one cell each. -/
def ones (a : Nat → Value) (n : Nat) : List Value := (List.range n).map a
theorem ones_get (a : Nat → Value) (n q : Nat) (h : q < n) : (ones a n).toArray[q]? = some (a q) := by simp [ones, h]
theorem ones_ext {a b : Nat → Value} {n : Nat} (h : ∀ p, p < n → a p = b p) : ones a n = ones b n := by
  apply List.map_congr_left
  intro q hq
  exact h q (List.mem_range.1 hq)
theorem ones_set (a : Nat → Value) (n p : Nat) (x : Value) (h : p < n) : (ones a n).toArray.setIfInBounds p x = (ones (fun q => if q = p then x else a q) n).toArray := by
  apply Array.ext'
  apply List.ext_getElem?
  intro q
  simp only [Array.toList_setIfInBounds, List.getElem?_set]
  by_cases hq : q < n
  · by_cases h1 : p = q
    · subst h1
      simp [ones, h]
    · rw [if_neg h1]
      have h2 : ¬ q = p := fun e => h1 e.symm
      simp [ones, hq, h2]
  · have h1 : ¬ p = q := by omega
    rw [if_neg h1]
    simp [ones, hq]
theorem made_ones (x : Value) (n : Nat) : madeCells #[x] (n * 1) = (ones (fun _ => x) n).toArray := by
  apply Array.ext'
  apply List.ext_getElem?
  intro q
  simp only [madeCells, Array.toList_map, List.getElem?_map]
  by_cases h : q < n
  · simp [ones, h, Nat.mod_one]
  · simp [ones, h]
/-- The crew's cells. -/
def crewC (mu : Int) (slow : Bool) (room aw done h n : Int) (buf pk : Value) : Array Value :=
  ([Value.int .i32 mu, Value.pointer none, Value.bool slow, Value.int .i64 room, Value.int .i64 aw, Value.int .u64 done, Value.int .i64 h, Value.int .i64 n, buf, pk, Value.int .i64 0, Value.int .u64 0, Value.bool false, Value.int .u8 0, Value.int .u8 0, Value.int .u8 0, Value.int .u8 0, Value.int .u8 0, Value.int .u8 0, Value.int .u8 0, Value.int .u8 0, Value.int .u8 0, Value.int .u8 0, Value.int .u8 0, Value.int .u8 0, Value.int .u8 0, Value.int .u8 0, Value.int .u8 0, Value.int .u8 0, Value.int .u8 0, Value.int .u8 0, Value.int .u8 0, Value.int .u8 0, Value.int .u8 0] ++ [Value.int .u8 0, Value.int .u8 0, Value.int .u8 0, Value.int .u8 0, Value.int .u8 0, Value.int .u8 0, Value.int .u8 0, Value.int .u8 0, Value.int .u8 0, Value.int .u8 0, Value.int .u8 0, Value.int .u8 0, Value.int .u8 0, Value.int .u8 0, Value.int .u8 0, Value.int .u8 0, Value.int .u8 0, Value.int .u8 0, Value.int .u8 0, Value.int .u8 0, Value.int .u8 0, Value.int .u8 0, Value.int .u8 0, Value.int .u8 0, Value.int .u8 0, Value.int .u8 0, Value.int .u8 0, Value.int .u8 0, Value.int .u8 0, Value.int .u8 0, Value.int .u8 0, Value.int .u8 0, Value.int .u8 0, Value.int .u8 0, Value.int .u8 0]).toArray
end Go.Proofs.Ybulkdpks
