/-
  Rows of jobs (two cells each): read, written, copied, turned.
-/
import Derived.Test.YbulkdpksRows
import Derived.WalkKit
import Derived.ProofKit
import Derived.OpenShut
import Derived.WalkLawsBesides
import Derived.BigQuiet
import Derived.Laws.BitsAllLaws
import Derived.Laws.StructEq
import Derived.Outline
import Derived.Test.YbulkdpksHeap
import Derived.Test.YbulkdpksSync
import Derived.Test.YbulkdpksCrew
import Derived.Deep.RegionWith
import Derived.Deep.RegionHeld3
import Derived.Deep.DeepCutAuto
import Derived.Deep.DrawnRows
namespace Go.Proofs.Ybulkdpks
open Go.ChangeShapes Go.WideShapes Go.ChangeAt Go.RowKit
open Go.ChangeMaps (setBlock)
set_option linter.unusedVariables false

/-- 'copy' of elements of 'size' cells each into a row. -/
theorem run_copy_wide {P : Program} (w : World) (dT sT ty elem : TypeId) (g o dLen dCap : Nat) (a : Addr) (sLen sCap n size : Nat) (cur : Array Value) (t : TypeId) (cs : List Value)
    (hu : P.underlying dT = some (.slice elem)) (hs : (P.info? elem).map (·.size) = some size)
    (hg : w.heap[g]? = some (.cells cur t (0, 0))) (hn : n = Nat.min sLen dLen) (hcs : cs.length = n * size)
    (hsrc : ∀ j v, cs[j]? = some v → w.cell? (a.add j) = some v) (hfit : o + cs.length ≤ cur.size) (h1 : ∀ v ∈ cs, v.oneCell' = true) :
    (Builtin.copy_ #[dT, sT] ty #[.slice (some ⟨g, o, none⟩) dLen dCap, .slice (some a) sLen sCap]).run P w =
      .ok (goInt n) (w.setRow g (cur.toList.take o ++ cs ++ cur.toList.drop (o + cs.length)).toArray) := by
  have hl := run_loadCells_list (P := P) w a cs hsrc
  have hst := run_storeCells_at P g o t cs 0 cur w hg (by simpa using hfit) h1
  cases hq : P.info? elem with
  | none => simp [hq] at hs
  | some i =>
    have hi : i.size = size := by simpa [hq] using hs
    rw [hcs] at hl
    simp [Builtin.copy_, run_underlying hu, Builtin.lenOf, Builtin.firstCells, sizeOf, typeInfo, hq, hi, ← hn, hl, hst]

/-! ### a row of jobs: two cells each, the task and a nil pointer -/
def jcell (f : Nat → Int) (q : Nat) : Value := if q % 2 = 0 then .int .i64 (f (q / 2)) else .pointer none
def jobs (f : Nat → Int) (n : Nat) : List Value := (List.range (n * 2)).map (jcell f)

theorem jobs_length (f : Nat → Int) (n : Nat) : (jobs f n).length = n * 2 := by simp [jobs]
theorem jobs_get (f : Nat → Int) (n q : Nat) (h : q < n * 2) : (jobs f n)[q]? = some (jcell f q) := by simp [jobs, h]
theorem jobs_none (f : Nat → Int) (n q : Nat) (h : n * 2 ≤ q) : (jobs f n)[q]? = none := by simp [jobs]; omega
theorem jobs_one (f : Nat → Int) (n : Nat) : ∀ v ∈ jobs f n, v.oneCell' = true := by
  intro v hv
  obtain ⟨q, _, rfl⟩ := List.mem_map.1 hv
  unfold jcell
  split <;> rfl
theorem jcell_even (f : Nat → Int) (p : Nat) : jcell f (p * 2) = .int .i64 (f p) := by
  unfold jcell
  rw [if_pos (by omega), show p * 2 / 2 = p by omega]
theorem jcell_odd (f : Nat → Int) (p : Nat) : jcell f (p * 2 + 1) = .pointer none := by
  unfold jcell
  rw [if_neg (by omega)]

theorem jobs_ext {f g : Nat → Int} {n : Nat} (h : ∀ p, p < n → f p = g p) : jobs f n = jobs g n := by
  apply List.map_congr_left
  intro q hq
  have := List.mem_range.1 hq
  unfold jcell
  rw [h (q / 2) (by omega)]

theorem made_jobs (n : Nat) : madeCells #[.int .i64 0, .pointer none] (n * 2) = (jobs (fun _ => 0) n).toArray := by
  apply Array.ext'
  apply List.ext_getElem?
  intro q
  simp only [madeCells, Array.toList_map, List.getElem?_map]
  by_cases h : q < n * 2
  · rw [jobs_get _ _ _ h]
    simp [h, jcell]
    have : q % 2 = 0 ∨ q % 2 = 1 := by omega
    rcases this with h2 | h2 <;> simp [h2]
  · rw [jobs_none _ _ _ (by omega)]
    simp [h]

/-- A job written at place p. -/
theorem jobs_set (f : Nat → Int) (n p : Nat) (v : Int) (h : p < n) : ((jobs f n).toArray.setIfInBounds (p * 2) (.int .i64 v)).setIfInBounds (p * 2 + 1) (.pointer none) = (jobs (fun q => if q = p then v else f q) n).toArray := by
  apply Array.ext'
  apply List.ext_getElem?
  intro q
  simp only [Array.toList_setIfInBounds, List.getElem?_set, List.length_set, jobs_length]
  by_cases hq : q < n * 2
  · rw [jobs_get _ _ _ hq, jobs_get _ _ _ hq]
    by_cases h1 : p * 2 + 1 = q
    · subst h1
      rw [if_pos rfl, if_pos (by omega), jcell_odd]
    · rw [if_neg h1]
      by_cases h2 : p * 2 = q
      · subst h2
        rw [if_pos rfl, if_pos (by omega), jcell_even, if_pos rfl]
      · rw [if_neg h2]
        unfold jcell
        split
        · show some (Value.int .i64 (f (q / 2))) = some (Value.int .i64 (if q / 2 = p then v else f (q / 2)))
          rw [if_neg (by omega)]
        · rfl
  · rw [jobs_none _ _ _ (by omega), jobs_none _ _ _ (by omega)]
    have h1 : ¬ p * 2 + 1 = q := by omega
    have h2 : ¬ p * 2 = q := by omega
    rw [if_neg h1, if_neg h2]

theorem two_splices {α : Type} (X Y Z : List α) (a b : Nat) (ha : X.length = a) (hb : Y.length = b) :
    (Z.take 0 ++ X ++ Z.drop (0 + X.length)).take a ++ Y ++ (Z.take 0 ++ X ++ Z.drop (0 + X.length)).drop (a + Y.length) = X ++ (Y ++ Z.drop (a + b)) := by
  subst ha; subst hb
  rw [List.take_zero, List.nil_append, Nat.zero_add, List.take_left', List.append_assoc]
  · congr 2
    rw [List.drop_append, List.drop_eq_nil_of_le (by omega), List.nil_append, List.drop_drop]
    congr 1
    omega
  · rfl

/-- What the growth's two copies make of the old row: it is turned so that its head comes first. -/
theorem jobs_turn (f : Nat → Int) (L M h : Nat) (hh : h ≤ L) (hM : L ≤ M) :
    (jobs f L).drop (h * 2) ++ ((jobs f L).take (h * 2) ++ (jobs (fun _ => 0) M).drop ((L - h) * 2 + h * 2)) = jobs (fun p => if p < L - h then f (p + h) else if p < L then f (p + h - L) else 0) M := by
  have e1 : ((jobs f L).drop (h * 2)).length = (L - h) * 2 := by simp [jobs_length]; omega
  have e2 : ((jobs f L).take (h * 2)).length = h * 2 := by simp [jobs_length]; omega
  apply List.ext_getElem?
  intro q
  by_cases h1 : q < (L - h) * 2
  · rw [List.getElem?_append_left (by rw [e1]; exact h1), List.getElem?_drop, jobs_get _ _ _ (by omega), jobs_get _ _ _ (by omega)]
    unfold jcell
    rw [show (h * 2 + q) % 2 = q % 2 by omega, show (h * 2 + q) / 2 = q / 2 + h by omega]
    dsimp only
    rw [if_pos (show q / 2 < L - h by omega)]
  · rw [List.getElem?_append_right (by rw [e1]; omega), e1]
    by_cases h2 : q < L * 2
    · rw [List.getElem?_append_left (by rw [e2]; omega), List.getElem?_take, if_pos (by omega), jobs_get _ _ _ (by omega), jobs_get _ _ _ (by omega)]
      unfold jcell
      rw [show (q - (L - h) * 2) % 2 = q % 2 by omega, show (q - (L - h) * 2) / 2 = q / 2 + h - L by omega]
      dsimp only
      rw [if_neg (show ¬ q / 2 < L - h by omega), if_pos (show q / 2 < L by omega)]
    · rw [List.getElem?_append_right (by rw [e2]; omega), e2, List.getElem?_drop]
      by_cases h3 : q < M * 2
      · rw [jobs_get _ _ _ (by omega), jobs_get _ _ _ (by omega)]
        unfold jcell
        rw [show ((L - h) * 2 + h * 2 + (q - (L - h) * 2 - h * 2)) % 2 = q % 2 by omega]
        dsimp only
        rw [if_neg (show ¬ q / 2 < L - h by omega), if_neg (show ¬ q / 2 < L by omega)]
      · rw [jobs_none _ _ _ (by omega), jobs_none _ _ _ (by omega)]
end Go.Proofs.Ybulkdpks
