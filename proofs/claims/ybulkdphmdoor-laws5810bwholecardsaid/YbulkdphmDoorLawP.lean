/-
  What stands when the law has its bytes.
-/
import Derived.Test.YbulkdphmDoorRows
import Derived.WalkKit
import Derived.ProofKit
import Derived.OpenShut
import Derived.WalkLawsBesides
import Derived.BigQuiet
import Derived.Laws.BitsAllLaws
import Derived.Laws.StructEq
import Derived.Outline
import Derived.Deep.RegionWith
import Derived.Deep.RegionHeld3
import Derived.Deep.DeepCutAuto
import Derived.Deep.DrawnRows
import Derived.Handy
import Derived.Laws.ResultCell
import Derived.Test.YbulkdphmDoorLawM
namespace Go.Proofs.YbulkdphmDoor
open Go.ChangeShapes Go.WideShapes Go.ChangeAt Go.RowKit
open Go.ChangeMaps (setBlock)
set_option linter.unusedVariables false
set_option linter.unusedSimpArgs false

open Go.Lib (byteCells decDigits itoa)
theorem call5 (b off n c : Nat) (xs : List Int) (w : World) (h : Bytes w b off n xs) (hc : n ≤ c) (hn : n ≤ 1048576) (htab : Tab w) :
    Calls Ybad.prog 5 #[.slice (some ⟨b, off, none⟩) n c] w fun e w' => e = .returned (.tuple #[.string ⟨(itoa (if 0 < xs.length ∧ xs.length ≤ 8 then sI xs else 0)).toArray⟩, .bool (pvK 2 xs)]) ∧ Below w.heap.size w w' := by
  have hl := h.len
  by_cases h8 : 0 < n ∧ n ≤ 8
  · have e : pvK 2 xs = true := by simp [pvK]; omega
    rw [if_pos (by omega), e]
    exact zint_ok b off n c xs w h hc h8.1 h8.2 htab
  · have e : pvK 2 xs = false := by simp [pvK]; omega
    rw [if_neg (by omega), e]
    refine (zint_no _ n c w (by omega) hn).mono ?_
    rintro e w' ⟨he, rfl⟩
    exact ⟨he, Below.refl _ _⟩
theorem call6 (b off n c : Nat) (xs : List Int) (w : World) (h : Bytes w b off n xs) (hc : n ≤ c) (hn : n ≤ 1048576) (htab : Tab w) :
    Calls Ybad.prog 6 #[.slice (some ⟨b, off, none⟩) n c] w fun e w' => e = .returned (.tuple #[.string ⟨(decDigits (if 0 < xs.length ∧ (dz xs).length ≤ 8 then (uF 0 (dz xs)).toNat else 0)).toArray⟩, .bool (decide (0 < xs.length ∧ (dz xs).length ≤ 8))]) ∧ Below w.heap.size w w' := by
  have hl := h.len
  by_cases h0 : n = 0
  · have hq : ¬ (0 < xs.length ∧ (dz xs).length ≤ 8) := by omega
    rw [if_neg hq, decide_eq_false hq]
    subst h0
    refine (zuint_nil _ c w).mono ?_
    rintro e w' ⟨he, rfl⟩
    exact ⟨he, Below.refl _ _⟩
  · by_cases h8 : (dz xs).length ≤ 8
    · have hq : 0 < xs.length ∧ (dz xs).length ≤ 8 := ⟨by omega, h8⟩
      rw [if_pos hq, decide_eq_true hq]
      exact zuint_ok b off n c xs w h hc (by omega) hn h8 htab
    · have hq : ¬ (0 < xs.length ∧ (dz xs).length ≤ 8) := by omega
      rw [if_neg hq, decide_eq_false hq]
      refine (zuint_no b off n c xs w h hc (by omega) hn (by omega)).mono ?_
      rintro e w' ⟨he, rfl⟩
      exact ⟨he, Below.refl _ _⟩
theorem oidV_eq (o : Option (List UInt8)) : oidV o = .tuple #[.string ⟨(o.getD []).toArray⟩, .bool o.isSome] := by
  cases o <;> rfl
theorem call7 (b off n c : Nat) (xs : List Int) (w : World) (h : Bytes w b off n xs) (hc : n ≤ c) (hn : n ≤ 1048576) (htab : Tab w) :
    Calls Ybad.prog 7 #[.slice (some ⟨b, off, none⟩) n c] w fun e w' => e = .returned (.tuple #[.string ⟨((oidOf xs).getD []).toArray⟩, .bool (oidOf xs).isSome]) ∧ Below w.heap.size w w' := by
  have hl := h.len
  rw [← oidV_eq]
  by_cases h0 : n = 0
  · have e : oidOf xs = none := by
      obtain rfl : xs = [] := List.eq_nil_of_length_eq_zero (by omega)
      rfl
    rw [e]
    subst h0
    refine (zoid_nil _ c w).mono ?_
    rintro e w' ⟨he, rfl⟩
    exact ⟨he, Below.refl _ _⟩
  · by_cases hx : xs.getD (n - 1) 0 < 128
    · exact zoid_any b off n c xs w h hc (by omega) hn htab hx
    · have e : oidOf xs = none := by
        unfold oidOf
        rw [scan_last xs 0 true (by intro e; rw [e] at hl; exact h0 hl) (by rw [← hl]; omega)]
        rfl
      rw [e]
      refine (zoid_last b off n c xs w h hc (by omega) hn (by omega)).mono ?_
      rintro e w' ⟨he, rfl⟩
      exact ⟨he, Below.refl _ _⟩

/-- What stands when the law has its bytes and their copy. -/
structure Pre (w0 W : World) (a4 a6 : Addr) (bb kb n cb : Nat) (xs : List Int) : Prop where
  tz : ∀ w', Below w0.heap.size w0 w' → Tab w' ∧ Zs w' a4 a6
  bl : Below w0.heap.size w0 W
  bs : Bytes W bb 0 n xs
  nc : n ≤ cb
  hn : n ≤ 1048576
  ks : Bytes W kb 0 n xs
theorem below_drewN (W : World) (q : Nat) : Below W.heap.size W (W.drewN q) := ⟨rfl, rfl, rfl, Nat.le_refl _, fun _ _ => rfl⟩
theorem Pre.mid {w0 W : World} {a4 a6 : Addr} {bb kb n cb : Nat} {xs : List Int} (P : Pre w0 W a4 a6 bb kb n cb xs) {s L : Nat} (hN : nextOf xs = some (s, L)) {o1 c1 o2 c2 : Nat} (q : Nat) (hL : L ≤ c1) (b1 : Bytes W bb o1 L ((xs.take (s + L)).drop s)) (b2 : Bytes W bb o2 (n - (s + L)) (xs.drop (s + L))) :
    Mid w0 ((W.drewN q).alloc (.cells #[.string ⟨#[]⟩, .string ⟨#[]⟩, .bool false] 27)) a4 a6 bb kb W.heap.size n cb s L o1 c1 o2 c2 (n - (s + L)) xs := by
  have hb : Below W.heap.size W ((W.drewN q).alloc (.cells #[.string ⟨#[]⟩, .string ⟨#[]⟩, .bool false] 27)) := (below_drewN W q).alloc (Nat.le_refl _) _
  have hfit := nextOf_fits P.bs.byte hN
  have hlen := P.bs.len
  exact ⟨P.tz, P.bl.trans (hb.mono P.bl.size), P.bs.on hb, P.nc, P.hn, hN, hL, b1.on hb, b2.on hb, rfl, P.ks.on hb, hp_alloc_at rfl, Nat.ne_of_lt (P.bs.lt (by omega)), Nat.ne_of_lt (P.ks.lt (by omega)), P.bl.size⟩
end Go.Proofs.YbulkdphmDoor
