/-
  snmp.formatOID.
-/
import Derived.Test.YbulkdphmDoorRows
import Derived.WalkKit
import Derived.ProofKit
import Derived.OpenShut
import Derived.WalkLawsBesides
import Derived.BigQuiet
import Derived.Laws.BitsAllLaws
import Derived.Laws.StructEq
import Derived.Outline
import Derived.Test.YbulkdphmDoorApp
import Derived.Deep.RegionWith
import Derived.Deep.RegionHeld3
import Derived.Deep.DeepCutAuto
import Derived.Deep.DrawnRows
namespace Go.Proofs.YbulkdphmDoor
open Go.ChangeShapes Go.WideShapes Go.ChangeAt Go.RowKit
open Go.ChangeMaps (setBlock)
set_option linter.unusedVariables false

open Go.Lib (byteCells decDigits)
/-- What an object identifier's reading comes to. -/
def oidV : Option (List UInt8) → Value
  | none => .tuple #[.string ⟨#[]⟩, .bool false]
  | some l => .tuple #[.string ⟨l.toArray⟩, .bool true]


theorem own_app {w : World} {B : Nat} {v : Value} {A D : List UInt8} (h : w.ownsRow B 5 1 v (A.length + D.length) (byteCells A ++ byteCells D)) : w.ownsRow B 5 1 v (A ++ D).length (byteCells (A ++ D)) := by
  rw [List.length_append, Lib.byteCells_append]
  exact h

theorem min_two (Z X : Nat) (hX : X = min Z 2) (ats : Array TypeId) (ty : TypeId) (w : World) : (Builtin.min_ ats ty #[.int .u64 (Z : Int), .int .u64 2]).run Ybad.prog w = .ok (.int .u64 (X : Int)) w := by
  rcases Nat.lt_or_ge 2 Z with h | h
  · have e : (X : Int) = 2 := by omega
    have h1 : (2 : Int) < (Z : Int) := by omega
    simp [Builtin.min_, Builtin.min2, go_sem, h1, e]
  · have e : (X : Int) = (Z : Int) := by omega
    have h1 : ¬ (2 : Int) < (Z : Int) := by omega
    simp [Builtin.min_, Builtin.min2, go_sem, h1, e]

theorem foid_nil (p : Option Addr) (c : Nat) (w : World) : Calls Ybad.prog 23 #[.slice p 0 c] w fun e w' => e = .returned (oidV none) ∧ w' = w := by
  go_enter Ybad.func23, Ybad.ntmps23
  go_wp2_with fail
  go_ret2
  exact ⟨rfl, rfl⟩

set_option maxRecDepth 100000 in
set_option maxHeartbeats 3200000 in
/-- snmp.formatOID -/
theorem foid_any (b off n c : Nat) (xs : List Int) (w : World) (h : Bytes w b off n xs) (hc : n ≤ c) (h1 : 0 < n) (hn : n ≤ 1048576) (htab : Tab w) :
    Calls Ybad.prog 23 #[.slice (some ⟨b, off, none⟩) n c] w fun e w' => e = .returned (oidV (fmtScan xs 0 true 0 [])) ∧ Below w.heap.size w w' := by
  have hn0 : ((n : Int) == 0) = false := by simp; omega
  have hl := h.len
  have hbl := h.lt h1
  have HB := hide h
  have HT := hide htab
  have HL := hide hl
  have hw4 : IntKind.i64.wrap (4 * (n : Int)) = 4 * (n : Int) := by rw [IntKind.wrap_i64]; omega
  obtain ⟨i0, hi, hz0, hz1, hz2⟩ := info_parts info5
  clear h htab hl
  go_enter Ybad.func23, Ybad.ntmps23
  go_wp2_with (refine wpList_make_own _ rfl _ _ 22 rfl w.heap.size 5 i0 (.int .u8 0) 1 Ybad.underlying22 hi hz0 hz1 .i64 .i64 _ (4 * n) rfl rfl (by omega) (by rw [hz2]; omega) (by unfold maxLen; omega) (Nat.le_refl _) ?_; intro w1 hown1 hg1)
  have hb1 : Below w.heap.size w w1 := (Below.refl _ w).grown hg1 (Nat.le_refl _) (fun k hk => by cases hk)
  have H0 : Hid (w1.ownsRow w.heap.size 5 1 (.slice (some ⟨w.heap.size, 0, none⟩) 0 (4 * n)) ([] : List UInt8).length (byteCells []) ∧ Below w.heap.size w w1 ∧ fmtScan xs 0 true 0 [] = fmtScan (xs.drop 0) 0 true 0 [] ∧ 0 ≤ 4294967375 ∧ 0 ≤ 2 * 0 ∧ ([] : List UInt8).length ≤ 42 * 0) := ⟨hown1, hb1, rfl, by omega, by omega, by simp⟩
  clear hown1 hg1 hb1
  go_loopw [4, 5, 6, 7, 20] (fun vb vv vf vn vi wr => ∃ (i v cnt : Nat) (f : Bool) (l : List UInt8), i ≤ n ∧ vi = .int .i64 i ∧ vv = .int .u64 v ∧ vf = .bool f ∧ vn = .int .i64 cnt ∧ Hid (wr.ownsRow w.heap.size 5 1 vb l.length (byteCells l) ∧ Below w.heap.size w wr ∧ fmtScan xs 0 true 0 [] = fmtScan (xs.drop i) v f cnt l ∧ v ≤ 4294967375 ∧ cnt ≤ 2 * i ∧ l.length ≤ 42 * i ∧ (f = false → i < n) ∧ (0 < i → f = true → 0 < l.length) ∧ (cnt = 0 → l = []) ∧ (0 < cnt → 0 < l.length))) (fun _ _ _ _ vi _ => n - (intOf vi).toNat)
  case atStart => exact ⟨0, 0, 0, true, [], Nat.zero_le _, rfl, rfl, rfl, rfl, H0.out.1, H0.out.2.1, H0.out.2.2.1, by omega, by omega, by simp, by simp, by omega, fun _ => rfl, by omega⟩
  case round =>
    obtain ⟨i, v, cnt, f, l, hin, rfl, rfl, rfl, rfl, hI⟩ := hrel
    obtain ⟨q1, q2, q3, q4, q5, q6, q7, q8, q9, q10⟩ := hI.out
    by_cases hlt : i < n
    · obtain ⟨x, hx⟩ : ∃ x, x = xs.getD i 0 := ⟨_, rfl⟩
      have hbx := HB.out.at hlt
      rw [← hx] at hbx
      have g1 : wr.cell? ⟨b, off + i, none⟩ = some (.int .u8 x) := by rw [hx]; exact (HB.out.on q2).cell i hlt
      have hdrop : xs.drop i = x :: xs.drop (i + 1) := by rw [hx]; exact getD_drop xs i (by rw [← HL.out]; exact hlt)
      have hnil : (xs.drop (i + 1) = []) ↔ i + 1 = n := by rw [List.drop_eq_nil_iff, ← HL.out]; omega
      rw [hdrop, fmtScan] at q3
      have hi0 : (0 : Int) ≤ (i : Int) := by omega
      have hi1 : (i : Int) < (n : Int) := by omega
      by_cases c1 : f = true ∧ x = 128
      · rw [if_pos c1] at q3
        obtain ⟨rfl, hx128⟩ := c1
        have hxe : (x == 128) = true := by simp [hx128]
        have Q2 := hide q2
        have Q3 := hide q3
        clear q1 q2 q3 q4 q5 q6 q7 q8 q9 q10 hI hx hdrop hx128 hnil
        go_wp2_with fail
        go_ret2
        exact ⟨by rw [Q3.out]; rfl, Q2.out⟩
      · rw [if_neg c1] at q3
        obtain ⟨V, hV⟩ : ∃ V, V = sub7 v x := ⟨_, rfl⟩
        obtain ⟨y, hy⟩ : ∃ y, y = (x % 128).toNat := ⟨_, rfl⟩
        have hb7 := and127_u8 x hbx
        have hor := sub7_or v x hbx q4
        have hVb : V < 18446744073709551616 := by rw [hV]; unfold sub7; omega
        rw [← hy] at hb7 hor
        rw [← hV] at q3 hor
        have hyu : IntKind.u64.wrap (y : Int) = (y : Int) := by rw [IntKind.wrap_u64]; omega
        have hw1 : IntKind.i64.wrap ((n : Int) - 1) = (n : Int) - 1 := by rw [IntKind.wrap_i64]; omega
        clear hx hdrop hI hy hV
        cases f with
        | false =>
          clear c1
          by_cases c2 : 4294967375 < V
          · rw [if_pos c2] at q3
            have c2' : (4294967375 : Int) < (V : Int) := by omega
            have Q2 := hide q2
            have Q3 := hide q3
            clear q1 q2 q3 q4 q5 q6 q7 q8 q9 q10 hnil
            go_wp2_with fail
            go_ret2
            exact ⟨by rw [Q3.out]; rfl, Q2.out⟩
          · rw [if_neg c2] at q3
            have c2' : ¬ (4294967375 : Int) < (V : Int) := by omega
            by_cases c3 : x < 128
            · rw [if_pos c3] at q3
              have hand := and128_u8_lt x hbx.1 c3
              by_cases c4 : cnt = 0
              · rw [if_pos c4] at q3
                have hc0 : ((cnt : Int) == 0) = true := by simp [c4]
                obtain ⟨Z, hZ⟩ : ∃ Z, Z = V / 40 := ⟨_, rfl⟩
                obtain ⟨X, hX⟩ : ∃ X, X = arcX V := ⟨_, rfl⟩
                obtain ⟨Y, hY⟩ : ∃ Y, Y = arcY V := ⟨_, rfl⟩
                rw [← hX, ← hY] at q3
                have hXZ : X = min Z 2 := by rw [hX, hZ]; rfl
                have hYV : V = Y + 40 * X := by rw [hY, hX]; unfold arcY arcX; omega
                have hq1 : Int.tdiv (V : Int) 40 = (Z : Int) := by rw [hZ]; exact Int.tdiv_eq_ediv_of_nonneg (by omega)
                have hq2 : (V : Int) / 40 = (Z : Int) := by rw [hZ]; omega
                have hmin := min_two Z X hXZ
                have hX2 : X ≤ 2 := by omega
                have hw5 : IntKind.u64.wrap (40 * (X : Int)) = 40 * (X : Int) := by rw [IntKind.wrap_u64]; omega
                have hw6 : IntKind.u64.wrap ((V : Int) - 40 * (X : Int)) = (Y : Int) := by rw [IntKind.wrap_u64]; omega
                have hw7 : (V : Int) - 40 * (X : Int) = (Y : Int) := by omega
                have hle := dec_len X (by omega)
                have hle2 := dec_len Y (by omega)
                have HAP : Hid (Calls Ybad.prog 13 #[u4, .int .u64 X, .int .i64 10] wr fun e w' => ∃ v', e = .returned v' ∧ (w'.ownsRow w.heap.size 5 1 v' (l ++ decDigits X).length (byteCells (l ++ decDigits X)) ∧ Below w.heap.size w w')) := by
                  refine (appU w.heap.size l.length X (by omega) u4 _ wr q1 q2.size (by omega) (HT.out.on q2)).mono ?_
                  rintro e w' ⟨v', he, ho, hb, _⟩
                  refine ⟨v', he, ?_, q2.trans hb⟩
                  rw [List.length_append, Lib.byteCells_append]
                  exact ho
                have HQ := hide (And.intro q2 (And.intro q3 (And.intro q5 q6)))
                have hYb : Y < 18446744073709551616 := by omega
                clear q1 q2 q3 q4 q5 q6 q7 q8 q9 q10 hX hY hZ hYV hXZ c4
                by_cases c5 : 4294967295 < Y
                · have c5' : (4294967295 : Int) < (Y : Int) := by omega
                  go_wp2_with (go_at_call 13; refine HAP.out.mono ?_; rintro e w2 ⟨v2, rfl, hh⟩; have H2 := hide hh; clear hh)
                  go_ret2
                  exact ⟨by rw [HQ.out.2.1, if_pos c5]; rfl, H2.out.2⟩
                · have c5' : ¬ (4294967295 : Int) < (Y : Int) := by omega
                  go_upto_region 25 with (go_at_call 13; refine HAP.out.mono ?_; rintro e w2 ⟨v2, rfl, hh⟩; have H2 := hide hh; clear hh)
                  go_upto_region 26 with (at_builtin; refine wpList_byte rfl _ _ rfl w.heap.size v2 (l ++ decDigits X) 46 rfl rfl H2.out.1 H2.out.2.size (by have := HQ.out.2.2.2; simp only [List.length_append]; omega) ?_; intro v3 w3 ho3 hb3 _; have H3 := hide (And.intro ho3 (Below.trans H2.out.2 hb3)); clear ho3 hb3)
                  have HAP2 : Hid (Calls Ybad.prog 13 #[v3, .int .u64 Y, .int .i64 10] w3 fun e w' => ∃ v', e = .returned v' ∧ (w'.ownsRow w.heap.size 5 1 v' (l ++ decDigits X ++ [46] ++ decDigits Y).length (byteCells (l ++ decDigits X ++ [46] ++ decDigits Y)) ∧ Below w.heap.size w w')) := by
                    refine (appU w.heap.size (l ++ decDigits X ++ [46]).length Y hYb v3 _ w3 H3.out.1 H3.out.2.size (by have := HQ.out.2.2.2; simp only [List.length_append, List.length_cons, List.length_nil]; omega) (HT.out.on H3.out.2)).mono ?_
                    rintro e w' ⟨v', he, ho, hb, _⟩
                    refine ⟨v', he, ?_, H3.out.2.trans hb⟩
                    exact own_app ho
                  go_wp2_with (go_at_call 13; refine HAP2.out.mono ?_; rintro e w4 ⟨v4, rfl, hh⟩; have H4 := hide hh; clear hh)
                  go_roundw
                  case rel =>
                    refine ⟨i + 1, 0, 2, true, l ++ decDigits X ++ [46] ++ decDigits Y, by omega, by go_num, rfl, rfl, ?_, H4.out.1, H4.out.2, ?_, by omega, by omega, ?_, by simp, ?_, by simp, ?_⟩
                    · have e0 : cnt = 0 := by simpa using hc0
                      rw [e0]; exact congrArg (Value.int .i64) (by unfold wrap64; omega)
                    · rw [HQ.out.2.1, if_neg c5]
                      simp [List.append_assoc]
                    · have := HQ.out.2.2.2
                      simp only [List.length_append, List.length_cons, List.length_nil]
                      omega
                    · intro _ _
                      simp only [List.length_append, List.length_cons, List.length_nil]; omega
                    · intro _
                      simp only [List.length_append, List.length_cons, List.length_nil]; omega
                  case measure => simp [intOf]; omega
              · rw [if_neg c4] at q3
                have hc0 : ((cnt : Int) == 0) = false := by simp; omega
                have hle2 := dec_len V (by omega)
                have hw8 : IntKind.i64.wrap ((cnt : Int) + 1) = (cnt : Int) + 1 := by rw [IntKind.wrap_i64]; omega
                have HQ := hide (And.intro q1 (And.intro q2 (And.intro q3 (And.intro q5 q6))))
                clear q1 q2 q3 q4 q5 q6 q7 q8 q9 q10
                by_cases c5 : 4294967295 < V
                · have c5' : (4294967295 : Int) < (V : Int) := by omega
                  go_wp2_with fail
                  go_ret2
                  exact ⟨by rw [HQ.out.2.2.1, if_pos c5]; rfl, HQ.out.2.1⟩
                · have c5' : ¬ (4294967295 : Int) < (V : Int) := by omega
                  go_upto_region 26 with (at_builtin; refine wpList_byte rfl _ _ rfl w.heap.size u4 l 46 rfl rfl HQ.out.1 HQ.out.2.1.size (by have := HQ.out.2.2.2.2; omega) ?_; intro v3 w3 ho3 hb3 _; have H3 := hide (And.intro ho3 (Below.trans HQ.out.2.1 hb3)); clear ho3 hb3)
                  have HAP2 : Hid (Calls Ybad.prog 13 #[v3, .int .u64 V, .int .i64 10] w3 fun e w' => ∃ v', e = .returned v' ∧ (w'.ownsRow w.heap.size 5 1 v' (l ++ [46] ++ decDigits V).length (byteCells (l ++ [46] ++ decDigits V)) ∧ Below w.heap.size w w')) := by
                    refine (appU w.heap.size (l ++ [46]).length V (by omega) v3 _ w3 H3.out.1 H3.out.2.size (by have := HQ.out.2.2.2.2; simp only [List.length_append, List.length_cons, List.length_nil]; omega) (HT.out.on H3.out.2)).mono ?_
                    rintro e w' ⟨v', he, ho, hb, _⟩
                    refine ⟨v', he, ?_, H3.out.2.trans hb⟩
                    exact own_app ho
                  go_wp2_with (go_at_call 13; refine HAP2.out.mono ?_; rintro e w4 ⟨v4, rfl, hh⟩; have H4 := hide hh; clear hh)
                  go_roundw
                  case rel =>
                    refine ⟨i + 1, 0, cnt + 1, true, l ++ [46] ++ decDigits V, by omega, by go_num, rfl, rfl, by go_num, H4.out.1, H4.out.2, ?_, by omega, ?_, ?_, by simp, ?_, by omega, ?_⟩
                    · rw [HQ.out.2.2.1, if_neg c5]
                      simp [List.append_assoc]
                    · have := HQ.out.2.2.2.1; omega
                    · have := HQ.out.2.2.2.2
                      simp only [List.length_append, List.length_cons, List.length_nil]
                      omega
                    · intro _ _
                      simp only [List.length_append, List.length_cons, List.length_nil]; omega
                    · intro _
                      simp only [List.length_append, List.length_cons, List.length_nil]; omega
                  case measure => simp [intOf]; omega
            · rw [if_neg c3] at q3
              have hand := and128_u8_ge x (by omega) hbx.2
              by_cases c6 : i + 1 = n
              · rw [if_pos (hnil.2 c6)] at q3
                have hlast : ((i : Int) == (n : Int) - 1) = true := by simp; omega
                have Q2 := hide q2
                have Q3 := hide q3
                clear q1 q2 q3 q4 q5 q6 q7 q8 q9 q10 hnil c6
                go_wp2_with fail
                go_ret2
                exact ⟨by rw [Q3.out]; rfl, Q2.out⟩
              · rw [if_neg (fun hh => c6 (hnil.1 hh))] at q3
                have hlast : ((i : Int) == (n : Int) - 1) = false := by simp; omega
                have HN : Hid (wr.ownsRow w.heap.size 5 1 u4 l.length (byteCells l) ∧ Below w.heap.size w wr ∧ fmtScan xs 0 true 0 [] = fmtScan (xs.drop (i + 1)) V false cnt l ∧ V ≤ 4294967375 ∧ cnt ≤ 2 * (i + 1) ∧ l.length ≤ 42 * (i + 1) ∧ (false = false → i + 1 < n) ∧ (0 < i + 1 → false = true → 0 < l.length) ∧ (cnt = 0 → l = []) ∧ (0 < cnt → 0 < l.length)) := ⟨q1, q2, q3, by omega, by omega, by omega, fun _ => by omega, fun _ h => absurd h (by simp), q9, q10⟩
                clear q1 q2 q3 q4 q5 q6 q7 q8 q9 q10 hnil
                go_wp2_with fail
                go_roundw
                case rel => exact ⟨i + 1, V, cnt, false, l, by omega, by go_num, rfl, rfl, rfl, HN⟩
                case measure => simp [intOf]; omega
        | true =>
          have hxe : (x == 128) = false := by simp; intro hh; exact c1 ⟨rfl, hh⟩
          clear c1
          by_cases c2 : 4294967375 < V
          · rw [if_pos c2] at q3
            have c2' : (4294967375 : Int) < (V : Int) := by omega
            have Q2 := hide q2
            have Q3 := hide q3
            clear q1 q2 q3 q4 q5 q6 q7 q8 q9 q10 hnil
            go_wp2_with fail
            go_ret2
            exact ⟨by rw [Q3.out]; rfl, Q2.out⟩
          · rw [if_neg c2] at q3
            have c2' : ¬ (4294967375 : Int) < (V : Int) := by omega
            by_cases c3 : x < 128
            · rw [if_pos c3] at q3
              have hand := and128_u8_lt x hbx.1 c3
              by_cases c4 : cnt = 0
              · rw [if_pos c4] at q3
                have hc0 : ((cnt : Int) == 0) = true := by simp [c4]
                obtain ⟨Z, hZ⟩ : ∃ Z, Z = V / 40 := ⟨_, rfl⟩
                obtain ⟨X, hX⟩ : ∃ X, X = arcX V := ⟨_, rfl⟩
                obtain ⟨Y, hY⟩ : ∃ Y, Y = arcY V := ⟨_, rfl⟩
                rw [← hX, ← hY] at q3
                have hXZ : X = min Z 2 := by rw [hX, hZ]; rfl
                have hYV : V = Y + 40 * X := by rw [hY, hX]; unfold arcY arcX; omega
                have hq1 : Int.tdiv (V : Int) 40 = (Z : Int) := by rw [hZ]; exact Int.tdiv_eq_ediv_of_nonneg (by omega)
                have hq2 : (V : Int) / 40 = (Z : Int) := by rw [hZ]; omega
                have hmin := min_two Z X hXZ
                have hX2 : X ≤ 2 := by omega
                have hw5 : IntKind.u64.wrap (40 * (X : Int)) = 40 * (X : Int) := by rw [IntKind.wrap_u64]; omega
                have hw6 : IntKind.u64.wrap ((V : Int) - 40 * (X : Int)) = (Y : Int) := by rw [IntKind.wrap_u64]; omega
                have hw7 : (V : Int) - 40 * (X : Int) = (Y : Int) := by omega
                have hle := dec_len X (by omega)
                have hle2 := dec_len Y (by omega)
                have HAP : Hid (Calls Ybad.prog 13 #[u4, .int .u64 X, .int .i64 10] wr fun e w' => ∃ v', e = .returned v' ∧ (w'.ownsRow w.heap.size 5 1 v' (l ++ decDigits X).length (byteCells (l ++ decDigits X)) ∧ Below w.heap.size w w')) := by
                  refine (appU w.heap.size l.length X (by omega) u4 _ wr q1 q2.size (by omega) (HT.out.on q2)).mono ?_
                  rintro e w' ⟨v', he, ho, hb, _⟩
                  refine ⟨v', he, ?_, q2.trans hb⟩
                  rw [List.length_append, Lib.byteCells_append]
                  exact ho
                have HQ := hide (And.intro q2 (And.intro q3 (And.intro q5 q6)))
                have hYb : Y < 18446744073709551616 := by omega
                clear q1 q2 q3 q4 q5 q6 q7 q8 q9 q10 hX hY hZ hYV hXZ c4
                by_cases c5 : 4294967295 < Y
                · have c5' : (4294967295 : Int) < (Y : Int) := by omega
                  go_wp2_with (go_at_call 13; refine HAP.out.mono ?_; rintro e w2 ⟨v2, rfl, hh⟩; have H2 := hide hh; clear hh)
                  go_ret2
                  exact ⟨by rw [HQ.out.2.1, if_pos c5]; rfl, H2.out.2⟩
                · have c5' : ¬ (4294967295 : Int) < (Y : Int) := by omega
                  go_upto_region 25 with (go_at_call 13; refine HAP.out.mono ?_; rintro e w2 ⟨v2, rfl, hh⟩; have H2 := hide hh; clear hh)
                  go_upto_region 26 with (at_builtin; refine wpList_byte rfl _ _ rfl w.heap.size v2 (l ++ decDigits X) 46 rfl rfl H2.out.1 H2.out.2.size (by have := HQ.out.2.2.2; simp only [List.length_append]; omega) ?_; intro v3 w3 ho3 hb3 _; have H3 := hide (And.intro ho3 (Below.trans H2.out.2 hb3)); clear ho3 hb3)
                  have HAP2 : Hid (Calls Ybad.prog 13 #[v3, .int .u64 Y, .int .i64 10] w3 fun e w' => ∃ v', e = .returned v' ∧ (w'.ownsRow w.heap.size 5 1 v' (l ++ decDigits X ++ [46] ++ decDigits Y).length (byteCells (l ++ decDigits X ++ [46] ++ decDigits Y)) ∧ Below w.heap.size w w')) := by
                    refine (appU w.heap.size (l ++ decDigits X ++ [46]).length Y hYb v3 _ w3 H3.out.1 H3.out.2.size (by have := HQ.out.2.2.2; simp only [List.length_append, List.length_cons, List.length_nil]; omega) (HT.out.on H3.out.2)).mono ?_
                    rintro e w' ⟨v', he, ho, hb, _⟩
                    refine ⟨v', he, ?_, H3.out.2.trans hb⟩
                    exact own_app ho
                  go_wp2_with (go_at_call 13; refine HAP2.out.mono ?_; rintro e w4 ⟨v4, rfl, hh⟩; have H4 := hide hh; clear hh)
                  go_roundw
                  case rel =>
                    refine ⟨i + 1, 0, 2, true, l ++ decDigits X ++ [46] ++ decDigits Y, by omega, by go_num, rfl, rfl, ?_, H4.out.1, H4.out.2, ?_, by omega, by omega, ?_, by simp, ?_, by simp, ?_⟩
                    · have e0 : cnt = 0 := by simpa using hc0
                      rw [e0]; exact congrArg (Value.int .i64) (by unfold wrap64; omega)
                    · rw [HQ.out.2.1, if_neg c5]
                      simp [List.append_assoc]
                    · have := HQ.out.2.2.2
                      simp only [List.length_append, List.length_cons, List.length_nil]
                      omega
                    · intro _ _
                      simp only [List.length_append, List.length_cons, List.length_nil]; omega
                    · intro _
                      simp only [List.length_append, List.length_cons, List.length_nil]; omega
                  case measure => simp [intOf]; omega
              · rw [if_neg c4] at q3
                have hc0 : ((cnt : Int) == 0) = false := by simp; omega
                have hle2 := dec_len V (by omega)
                have hw8 : IntKind.i64.wrap ((cnt : Int) + 1) = (cnt : Int) + 1 := by rw [IntKind.wrap_i64]; omega
                have HQ := hide (And.intro q1 (And.intro q2 (And.intro q3 (And.intro q5 q6))))
                clear q1 q2 q3 q4 q5 q6 q7 q8 q9 q10
                by_cases c5 : 4294967295 < V
                · have c5' : (4294967295 : Int) < (V : Int) := by omega
                  go_wp2_with fail
                  go_ret2
                  exact ⟨by rw [HQ.out.2.2.1, if_pos c5]; rfl, HQ.out.2.1⟩
                · have c5' : ¬ (4294967295 : Int) < (V : Int) := by omega
                  go_upto_region 26 with (at_builtin; refine wpList_byte rfl _ _ rfl w.heap.size u4 l 46 rfl rfl HQ.out.1 HQ.out.2.1.size (by have := HQ.out.2.2.2.2; omega) ?_; intro v3 w3 ho3 hb3 _; have H3 := hide (And.intro ho3 (Below.trans HQ.out.2.1 hb3)); clear ho3 hb3)
                  have HAP2 : Hid (Calls Ybad.prog 13 #[v3, .int .u64 V, .int .i64 10] w3 fun e w' => ∃ v', e = .returned v' ∧ (w'.ownsRow w.heap.size 5 1 v' (l ++ [46] ++ decDigits V).length (byteCells (l ++ [46] ++ decDigits V)) ∧ Below w.heap.size w w')) := by
                    refine (appU w.heap.size (l ++ [46]).length V (by omega) v3 _ w3 H3.out.1 H3.out.2.size (by have := HQ.out.2.2.2.2; simp only [List.length_append, List.length_cons, List.length_nil]; omega) (HT.out.on H3.out.2)).mono ?_
                    rintro e w' ⟨v', he, ho, hb, _⟩
                    refine ⟨v', he, ?_, H3.out.2.trans hb⟩
                    exact own_app ho
                  go_wp2_with (go_at_call 13; refine HAP2.out.mono ?_; rintro e w4 ⟨v4, rfl, hh⟩; have H4 := hide hh; clear hh)
                  go_roundw
                  case rel =>
                    refine ⟨i + 1, 0, cnt + 1, true, l ++ [46] ++ decDigits V, by omega, by go_num, rfl, rfl, by go_num, H4.out.1, H4.out.2, ?_, by omega, ?_, ?_, by simp, ?_, by omega, ?_⟩
                    · rw [HQ.out.2.2.1, if_neg c5]
                      simp [List.append_assoc]
                    · have := HQ.out.2.2.2.1; omega
                    · have := HQ.out.2.2.2.2
                      simp only [List.length_append, List.length_cons, List.length_nil]
                      omega
                    · intro _ _
                      simp only [List.length_append, List.length_cons, List.length_nil]; omega
                    · intro _
                      simp only [List.length_append, List.length_cons, List.length_nil]; omega
                  case measure => simp [intOf]; omega
            · rw [if_neg c3] at q3
              have hand := and128_u8_ge x (by omega) hbx.2
              by_cases c6 : i + 1 = n
              · rw [if_pos (hnil.2 c6)] at q3
                have hlast : ((i : Int) == (n : Int) - 1) = true := by simp; omega
                have Q2 := hide q2
                have Q3 := hide q3
                clear q1 q2 q3 q4 q5 q6 q7 q8 q9 q10 hnil c6
                go_wp2_with fail
                go_ret2
                exact ⟨by rw [Q3.out]; rfl, Q2.out⟩
              · rw [if_neg (fun hh => c6 (hnil.1 hh))] at q3
                have hlast : ((i : Int) == (n : Int) - 1) = false := by simp; omega
                have HN : Hid (wr.ownsRow w.heap.size 5 1 u4 l.length (byteCells l) ∧ Below w.heap.size w wr ∧ fmtScan xs 0 true 0 [] = fmtScan (xs.drop (i + 1)) V false cnt l ∧ V ≤ 4294967375 ∧ cnt ≤ 2 * (i + 1) ∧ l.length ≤ 42 * (i + 1) ∧ (false = false → i + 1 < n) ∧ (0 < i + 1 → false = true → 0 < l.length) ∧ (cnt = 0 → l = []) ∧ (0 < cnt → 0 < l.length)) := ⟨q1, q2, q3, by omega, by omega, by omega, fun _ => by omega, fun _ h => absurd h (by simp), q9, q10⟩
                clear q1 q2 q3 q4 q5 q6 q7 q8 q9 q10 hnil
                go_wp2_with fail
                go_roundw
                case rel => exact ⟨i + 1, V, cnt, false, l, by omega, by go_num, rfl, rfl, rfl, HN⟩
                case measure => simp [intOf]; omega
    · obtain rfl : n = i := by omega
      rw [show xs.drop n = [] by rw [List.drop_eq_nil_iff, ← HL.out]; omega, fmtScan] at q3
      have hf : f = true := by
        cases f with
        | true => rfl
        | false => exact absurd (q7 rfl) (by omega)
      have hlpos := q8 h1 hf
      by_cases c7 : 128 < cnt
      · rw [if_pos c7] at q3
        have c7' : (128 : Int) < (cnt : Int) := by omega
        have Q2 := hide q2
        have Q3 := hide q3
        clear q1 q2 q3 q4 q5 q6 q7 q8 q9 q10 hI hf
        go_wp2_with fail
        go_ret2
        exact ⟨by rw [Q3.out]; rfl, Q2.out⟩
      · rw [if_neg c7] at q3
        have c7' : ¬ (128 : Int) < (cnt : Int) := by omega
        have hcv := own_string w.heap.size u4 l wr q1 hlpos
        have Q2 := hide q2
        have Q3 := hide q3
        clear q1 q2 q3 q4 q5 q6 q7 q8 q9 q10 hI hf
        go_wp2_with fail
        go_ret2
        exact ⟨by rw [Q3.out]; rfl, Q2.out⟩
end Go.Proofs.YbulkdphmDoor
