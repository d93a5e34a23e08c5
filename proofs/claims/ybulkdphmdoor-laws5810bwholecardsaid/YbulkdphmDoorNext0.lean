/-
  The next element: plain.
-/
import Derived.Test.YbulkdphmDoorRows
import Derived.WalkKit
import Derived.ProofKit
import Derived.OpenShut
import Derived.WalkLawsBesides
import Derived.BigQuiet
import Derived.Laws.BitsAllLaws
import Derived.Laws.StructEq
import Derived.Outline
import Derived.Test.YbulkdphmDoorBytes
namespace Go.Proofs.YbulkdphmDoor
open Go.ChangeShapes Go.WideShapes Go.ChangeAt Go.RowKit
open Go.ChangeMaps (setBlock)
set_option linter.unusedVariables false

theorem uF_take (ys : List Int) (j : Nat) (h : j < ys.length) : uF 0 (ys.take (j + 1)) = uF 0 (ys.take j) * 256 + ys.getD j 0 := by
  rw [List.take_add_one, List.getElem?_eq_getElem h]
  unfold uF
  rw [List.foldl_append]
  simp [List.getD, h]

/-- Where the element's contents begin, and how many bytes they are. -/
def nextOf (xs : List Int) : Option (Nat × Nat) :=
  if xs.length < 2 then none
  else if xs.getD 1 0 < 128 then (if xs.length - 2 < (xs.getD 1 0).toNat then none else some (2, (xs.getD 1 0).toNat))
  else if (xs.getD 1 0 - 128).toNat = 0 ∨ 4 < (xs.getD 1 0 - 128).toNat ∨ xs.length - 2 < (xs.getD 1 0 - 128).toNat then none
  else if xs.length - (2 + (xs.getD 1 0 - 128).toNat) < (uF 0 ((xs.drop 2).take (xs.getD 1 0 - 128).toNat)).toNat then none
  else some (2 + (xs.getD 1 0 - 128).toNat, (uF 0 ((xs.drop 2).take (xs.getD 1 0 - 128).toNat)).toNat)

/-- The four ways to refuse, the two to take. -/
theorem nextOf_cases (xs : List Int) (hb : ∀ x ∈ xs, 0 ≤ x ∧ x < 256) :
    (xs.length < 2 ∧ nextOf xs = none) ∨ (2 ≤ xs.length ∧ ∃ x1 : Nat, (x1 : Int) = xs.getD 1 0 ∧
      ((x1 < 128 ∧ ((xs.length - 2 < x1 ∧ nextOf xs = none) ∨ (x1 ≤ xs.length - 2 ∧ nextOf xs = some (2, x1)))) ∨
       (128 ≤ x1 ∧ x1 < 256 ∧ (((x1 - 128 = 0 ∨ 4 < x1 - 128 ∨ xs.length - 2 < x1 - 128) ∧ nextOf xs = none) ∨
         (0 < x1 - 128 ∧ x1 - 128 ≤ 4 ∧ x1 - 128 ≤ xs.length - 2 ∧ ∃ L : Nat, (L : Int) = uF 0 ((xs.drop 2).take (x1 - 128)) ∧
           ((xs.length - (2 + (x1 - 128)) < L ∧ nextOf xs = none) ∨ (L ≤ xs.length - (2 + (x1 - 128)) ∧ nextOf xs = some (2 + (x1 - 128), L)))))))) := by
  unfold nextOf
  by_cases h2 : xs.length < 2
  · rw [if_pos h2]; exact Or.inl ⟨h2, rfl⟩
  rw [if_neg h2]
  refine Or.inr ⟨by omega, ?_⟩
  have hx : 0 ≤ xs.getD 1 0 ∧ xs.getD 1 0 < 256 := by
    have hl : 1 < xs.length := by omega
    have e : xs.getD 1 0 = xs[1] := by simp [List.getD, hl]
    rw [e]; exact hb _ (List.getElem_mem hl)
  generalize xs.getD 1 0 = y at hx
  obtain ⟨x1, rfl⟩ := Int.eq_ofNat_of_zero_le hx.1
  refine ⟨x1, rfl, ?_⟩
  by_cases h128 : (x1 : Int) < 128
  · rw [if_pos h128, Int.toNat_natCast]
    refine Or.inl ⟨by omega, ?_⟩
    by_cases h3 : xs.length - 2 < x1
    · rw [if_pos h3]; exact Or.inl ⟨h3, rfl⟩
    · rw [if_neg h3]; exact Or.inr ⟨by omega, rfl⟩
  · rw [if_neg h128, show ((x1 : Int) - 128).toNat = x1 - 128 by omega]
    refine Or.inr ⟨by omega, by omega, ?_⟩
    by_cases h4 : x1 - 128 = 0 ∨ 4 < x1 - 128 ∨ xs.length - 2 < x1 - 128
    · rw [if_pos h4]; exact Or.inl ⟨h4, rfl⟩
    · rw [if_neg h4]
      have hu := (uF_bound ((xs.drop 2).take (x1 - 128)) (fun x hx => hb x (List.mem_of_mem_drop (List.mem_of_mem_take hx)))).1
      generalize uF 0 ((xs.drop 2).take (x1 - 128)) = U at hu
      obtain ⟨L, rfl⟩ := Int.eq_ofNat_of_zero_le hu
      rw [Int.toNat_natCast]
      refine Or.inr ⟨by omega, by omega, by omega, L, rfl, ?_⟩
      by_cases h5 : xs.length - (2 + (x1 - 128)) < L
      · rw [if_pos h5]; exact Or.inl ⟨h5, rfl⟩
      · rw [if_neg h5]; exact Or.inr ⟨by omega, rfl⟩
end Go.Proofs.YbulkdphmDoor
