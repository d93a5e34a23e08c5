/-
  Object identifiers: plain.
-/
import Derived.Test.YbulkdphmDoorRows
import Derived.WalkKit
import Derived.ProofKit
import Derived.OpenShut
import Derived.WalkLawsBesides
import Derived.BigQuiet
import Derived.Laws.BitsAllLaws
import Derived.Laws.StructEq
import Derived.Outline
import Derived.Test.YbulkdphmDoorBytes
import Derived.Test.YbulkdphmDoorNum
namespace Go.Proofs.YbulkdphmDoor
open Go.ChangeShapes Go.WideShapes Go.ChangeAt Go.RowKit
open Go.ChangeMaps (setBlock)
set_option linter.unusedVariables false

open Go.Lib (decDigits)

/-- One more byte of a sub-identifier. -/
def sub7 (v : Nat) (b : Int) : Nat := v * 128 + (b % 128).toNat

/-- The sub-identifiers, read one by one. -/
def oidScan : List Int → Nat → Bool → Option (List Nat)
  | [], _, fresh => if fresh = true then some [] else none
  | b :: bs, v, fresh =>
    if fresh = true ∧ b = 128 then none
    else if 4294967375 < sub7 v b then none
    else if b < 128 then (oidScan bs 0 true).map (fun l => sub7 v b :: l)
    else oidScan bs (sub7 v b) false

def arcX (a : Nat) : Nat := min (a / 40) 2
def arcY (a : Nat) : Nat := a - 40 * arcX a
def dots (rs : List Nat) : List UInt8 := rs.flatMap fun a => 46 :: decDigits a
def tooBig (rs : List Nat) : Bool := rs.any fun y => decide (4294967295 < y)

def oidFin : List Nat → Option (List UInt8)
  | [] => none
  | a :: rs => if 4294967295 < arcY a ∨ tooBig rs = true ∨ 128 < rs.length + 2 then none else some (decDigits (arcX a) ++ 46 :: decDigits (arcY a) ++ dots rs)

def oidOf (xs : List Int) : Option (List UInt8) := (oidScan xs 0 true).bind oidFin

/-- What formatOID does from a byte on: the sub-identifier so far, whether the byte starts one, the arcs written, the text. -/
def fmtScan : List Int → Nat → Bool → Nat → List UInt8 → Option (List UInt8)
  | [], _, _, n, l => if 128 < n then none else some l
  | b :: bs, v, f, n, l =>
    if f = true ∧ b = 128 then none
    else if 4294967375 < sub7 v b then none
    else if b < 128 then
      (if n = 0 then (if 4294967295 < arcY (sub7 v b) then none else fmtScan bs 0 true 2 (l ++ decDigits (arcX (sub7 v b)) ++ 46 :: decDigits (arcY (sub7 v b))))
       else (if 4294967295 < sub7 v b then none else fmtScan bs 0 true (n + 1) (l ++ 46 :: decDigits (sub7 v b))))
    else (if bs = [] then none else fmtScan bs (sub7 v b) false n l)

theorem dots_cons (a : Nat) (rs : List Nat) : dots (a :: rs) = 46 :: decDigits a ++ dots rs := by simp [dots]
theorem tooBig_cons (a : Nat) (rs : List Nat) : tooBig (a :: rs) = (decide (4294967295 < a) || tooBig rs) := by simp [tooBig]

theorem fmt_later (bs : List Int) : ∀ (v : Nat) (f : Bool) (n : Nat) (l : List UInt8), 0 < n → (bs = [] → f = true) →
    fmtScan bs v f n l = (oidScan bs v f).bind fun rs => if tooBig rs = true ∨ 128 < n + rs.length then none else some (l ++ dots rs) := by
  induction bs with
  | nil =>
    intro v f n l hn hf
    rw [hf rfl]
    simp [fmtScan, oidScan, tooBig, dots]
  | cons b bs ih =>
    intro v f n l hn _
    rw [fmtScan, oidScan]
    by_cases h1 : f = true ∧ b = 128
    · rw [if_pos h1, if_pos h1]; rfl
    rw [if_neg h1, if_neg h1]
    by_cases h2 : 4294967375 < sub7 v b
    · rw [if_pos h2, if_pos h2]; rfl
    rw [if_neg h2, if_neg h2]
    by_cases h3 : b < 128
    · rw [if_pos h3, if_pos h3, if_neg (by omega)]
      by_cases h4 : 4294967295 < sub7 v b
      · rw [if_pos h4]
        cases oidScan bs 0 true with
        | none => rfl
        | some rs => simp [tooBig_cons, h4]
      · rw [if_neg h4, ih 0 true (n + 1) _ (by omega) (fun _ => rfl)]
        cases oidScan bs 0 true with
        | none => rfl
        | some rs =>
          have e : (n + 1 + rs.length) = n + (rs.length + 1) := by omega
          simp [tooBig_cons, h4, dots_cons, e]
    · rw [if_neg h3, if_neg h3]
      by_cases h5 : bs = []
      · rw [if_pos h5, h5]; rfl
      · rw [if_neg h5, ih (sub7 v b) false n l hn (fun e => absurd e h5)]

theorem fmt_first (bs : List Int) : ∀ (v : Nat) (f : Bool), bs ≠ [] → fmtScan bs v f 0 [] = (oidScan bs v f).bind oidFin := by
  induction bs with
  | nil => intro v f h; exact absurd rfl h
  | cons b bs ih =>
    intro v f _
    rw [fmtScan, oidScan]
    by_cases h1 : f = true ∧ b = 128
    · rw [if_pos h1, if_pos h1]; rfl
    rw [if_neg h1, if_neg h1]
    by_cases h2 : 4294967375 < sub7 v b
    · rw [if_pos h2, if_pos h2]; rfl
    rw [if_neg h2, if_neg h2]
    by_cases h3 : b < 128
    · rw [if_pos h3, if_pos h3, if_pos rfl]
      by_cases h4 : 4294967295 < arcY (sub7 v b)
      · rw [if_pos h4]
        cases oidScan bs 0 true with
        | none => rfl
        | some rs => simp [oidFin, h4]
      · rw [if_neg h4, fmt_later bs 0 true 2 _ (by omega) (fun _ => rfl)]
        cases oidScan bs 0 true with
        | none => rfl
        | some rs =>
          have e : (128 < 2 + rs.length) = (128 < rs.length + 2) := by rw [Nat.add_comm]
          simp [oidFin, h4, e]
    · rw [if_neg h3, if_neg h3]
      by_cases h5 : bs = []
      · rw [if_pos h5, h5]; rfl
      · rw [if_neg h5, ih (sub7 v b) false h5]

/-- The last byte goes on: nothing is read. -/
theorem scan_last (xs : List Int) : ∀ (v : Nat) (f : Bool), xs ≠ [] → 128 ≤ xs.getD (xs.length - 1) 0 → oidScan xs v f = none := by
  induction xs with
  | nil => intro v f h; exact absurd rfl h
  | cons b bs ih =>
    intro v f _ hl
    rw [oidScan]
    split
    · rfl
    split
    · rfl
    by_cases h5 : bs = []
    · subst h5
      have : 128 ≤ b := hl
      rw [if_neg (by omega)]
      rfl
    · have hlen : 0 < bs.length := List.length_pos_iff.2 h5
      have hl' : 128 ≤ bs.getD (bs.length - 1) 0 := by
        rw [List.length_cons, show bs.length + 1 - 1 = (bs.length - 1) + 1 by omega] at hl
        exact hl
      split
      · rw [ih 0 true h5 hl']; rfl
      · exact ih _ false h5 hl'
end Go.Proofs.YbulkdphmDoor
