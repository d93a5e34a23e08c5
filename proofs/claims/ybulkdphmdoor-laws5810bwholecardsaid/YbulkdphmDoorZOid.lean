/-
  snmp.zzs5810boid.
-/
import Derived.Test.YbulkdphmDoorRows
import Derived.WalkKit
import Derived.ProofKit
import Derived.OpenShut
import Derived.WalkLawsBesides
import Derived.BigQuiet
import Derived.Laws.BitsAllLaws
import Derived.Laws.StructEq
import Derived.Outline
import Derived.Test.YbulkdphmDoorFOid
import Derived.Deep.RegionWith
import Derived.Deep.RegionHeld3
import Derived.Deep.DeepCutAuto
import Derived.Deep.DrawnRows
namespace Go.Proofs.YbulkdphmDoor
open Go.ChangeShapes Go.WideShapes Go.ChangeAt Go.RowKit
open Go.ChangeMaps (setBlock)
set_option linter.unusedVariables false


open Go.Lib (byteCells decDigits)
def u64s (rs : List Nat) : List Value := rs.map fun (a : Nat) => Value.int .u64 (a : Int)

/-- append(arcs, v) -/
theorem wpList_arc {ops : Array Oper} {rest : List Oper} {o : Oper} {a : Act} {Q : Exit → Act → World → Prop} {w : World} (hgd : o.guard = none) (s x : Operand)
    (ho : o.op = .call { callee := .builtin .append, args := #[s, x], argTypes := #[42, 42] }) (B : Nat) (v : Value) (rs : List Nat) (y : Nat) (hs : a.eval s = v) (hx : a.eval x = .slice (some ⟨w.heap.size, 0, none⟩) 1 1)
    (hown : w.ownsRow B 38 1 v rs.length (u64s rs)) (hB : B ≤ w.heap.size) (hlim : rs.length + 1 ≤ 1048577)
    (h : ∀ v' w', w'.ownsRow B 38 1 v' (rs ++ [y]).length (u64s (rs ++ [y])) → Below B w w' → wpList Ybad.prog ops Q rest (a.put o.dst v') w') :
    wpList Ybad.prog ops Q (o :: rest) a (w.alloc (.cells #[.int .u64 (y : Int)] 38)) := by
  obtain ⟨i0, hi, hz0, hz1, hz2⟩ := info_parts info38
  refine wpList_append_own _ hgd s x 42 ho B 38 i0 (.int .u64 0) 1 8 Ybad.underlying42 hi hz0 hz1 hz2 rfl (by decide) v _ _ hs (hown.alloc _) ⟨w.heap.size, 0, none⟩ 1 1 [Value.int .u64 (y : Int)] hx rfl (by intro j u' hj; match j, hj with | 0, hj => simp at hj; subst hj; simp [Addr.add]) (by intro u' hu'; simp at hu'; subst hu'; rfl) (by unfold maxLen; omega) (by omega) (by simp; omega) ?_
  intro v' w' ho' hg _
  refine h v' w' ?_ ?_
  · have e : u64s rs ++ [Value.int .u64 (y : Int)] = u64s (rs ++ [y]) := by simp [u64s]
    rw [← e, List.length_append]
    exact ho'
  · exact ((Below.refl B w).alloc hB _).grown hg (by simp; omega) (fun k hk => (hown.lt k hk).1)

theorem own_arc {w : World} {B g n c : Nat} {rs : List Nat} (h : w.ownsRow B 38 1 (.slice (some ⟨g, 0, none⟩) n c) rs.length (u64s rs)) {j : Nat} (hj : j < rs.length) : w.cell? ⟨g, j, none⟩ = some (.int .u64 ((rs.getD j 0 : Nat) : Int)) := by
  have := h.cells (g := g) rfl j (.int .u64 ((rs.getD j 0 : Nat) : Int)) (by simp [u64s, hj, List.getD])
  rw [Lib.add_plain, Nat.zero_add] at this
  exact this
theorem own_shape {w : World} {B : Nat} {v : Value} {rs : List Nat} (h : w.ownsRow B 38 1 v rs.length (u64s rs)) (h0 : 0 < rs.length) : ∃ g c, v = .slice (some ⟨g, 0, none⟩) rs.length c := by
  rcases h.2 with ⟨-, e⟩ | ⟨g, cap, cur, hv, -⟩
  · omega
  · exact ⟨g, cap, hv⟩

theorem scan_map (xs : List Int) (rs : List Nat) (o : Option (List Nat)) (y : Nat) (h : oidScan xs 0 true = (o.map fun l => y :: l).map fun l => rs ++ l) : oidScan xs 0 true = o.map fun l => (rs ++ [y]) ++ l := by
  rw [h]
  cases o <;> simp

theorem getD_drop1 (rs : List Nat) (j : Nat) (h : 1 ≤ j) : (rs.drop 1).getD (j - 1) 0 = rs.getD j 0 := by
  obtain ⟨k, rfl⟩ : ∃ k, j = k + 1 := ⟨j - 1, by omega⟩
  simp [List.getD]
theorem tooBig_false {rs : List Nat} (h : ∀ k, k < rs.length → ¬ 4294967295 < rs.getD k 0) : tooBig rs = false := by
  unfold tooBig
  rw [List.any_eq_false]
  intro y hy
  obtain ⟨k, hk, rfl⟩ := List.getElem_of_mem hy
  have := h k hk
  have e : rs.getD k 0 = rs[k] := by simp [List.getD, hk]
  rw [e] at this
  simpa using this
theorem tooBig_true {rs : List Nat} {k : Nat} (hk : k < rs.length) (h : 4294967295 < rs.getD k 0) : tooBig rs = true := by
  unfold tooBig
  rw [List.any_eq_true]
  have e : rs.getD k 0 = rs[k] := by simp [List.getD, hk]
  rw [e] at h
  exact ⟨rs[k], List.getElem_mem hk, by simpa using h⟩
theorem dots_take (rs : List Nat) (k : Nat) (hk : k < rs.length) : dots (rs.take (k + 1)) = dots (rs.take k) ++ [46] ++ decDigits (rs.getD k 0) := by
  have e : rs.getD k 0 = rs[k] := by simp [List.getD, hk]
  unfold dots
  rw [List.take_add_one, List.getElem?_eq_getElem hk, List.flatMap_append, e, List.append_assoc]
  congr 1
  simp
theorem dots_len (rs : List Nat) (h : ∀ a ∈ rs, a < 18446744073709551616) : (dots rs).length ≤ 21 * rs.length := by
  induction rs with
  | nil => simp [dots]
  | cons a rs ih =>
    rw [dots_cons]
    have h1 := dec_len a (h a (by simp))
    have h2 := ih (fun y hy => h y (by simp [hy]))
    simp only [List.length_append, List.length_cons]
    omega

theorem zoid_nil (p : Option Addr) (c : Nat) (w : World) : Calls Ybad.prog 7 #[.slice p 0 c] w fun e w' => e = .returned (oidV none) ∧ w' = w := by
  go_enter Ybad.func7, Ybad.ntmps7
  go_wp2_with fail
  go_ret2
  exact ⟨rfl, rfl⟩

/-- The last byte goes on. -/
theorem zoid_last (b off n c : Nat) (xs : List Int) (w : World) (h : Bytes w b off n xs) (hc : n ≤ c) (h1 : 0 < n) (hn : n ≤ 1048576) (hx : 128 ≤ xs.getD (n - 1) 0) :
    Calls Ybad.prog 7 #[.slice (some ⟨b, off, none⟩) n c] w fun e w' => e = .returned (oidV none) ∧ w' = w := by
  have hn0 : ((n : Int) == 0) = false := by simp; omega
  obtain ⟨x, hx'⟩ : ∃ x, x = xs.getD (n - 1) 0 := ⟨_, rfl⟩
  have hbx := h.at (i := n - 1) (by omega)
  rw [← hx'] at hbx hx
  have g1 : w.cell? ⟨b, off + (n - 1), none⟩ = some (.int .u8 x) := by rw [hx']; exact h.cell (n - 1) (by omega)
  have hand := and128_u8_ge x hx hbx.2
  have hw1 : IntKind.i64.wrap ((n : Int) - 1) = ((n - 1 : Nat) : Int) := by rw [IntKind.wrap_i64]; omega
  have hw1' : ((n : Int) - 1) = ((n - 1 : Nat) : Int) := by omega
  obtain ⟨m, hm⟩ : ∃ m, m = n - 1 := ⟨_, rfl⟩
  rw [← hm] at g1 hw1 hw1'
  have hm0 : (0 : Int) ≤ (m : Int) := by omega
  have hm1 : (m : Int) < (n : Int) := by omega
  clear h hx' hm
  go_enter Ybad.func7, Ybad.ntmps7
  go_wp2_with fail
  go_ret2
  exact ⟨rfl, rfl⟩

set_option maxRecDepth 100000 in
set_option maxHeartbeats 3200000 in
/-- snmp.zzs5810boid, the last byte ending a sub-identifier. -/
theorem zoid_any (b off n c : Nat) (xs : List Int) (w : World) (h : Bytes w b off n xs) (hc : n ≤ c) (h1 : 0 < n) (hn : n ≤ 1048576) (htab : Tab w) (hlast : xs.getD (n - 1) 0 < 128) :
    Calls Ybad.prog 7 #[.slice (some ⟨b, off, none⟩) n c] w fun e w' => e = .returned (oidV (oidOf xs)) ∧ Below w.heap.size w w' := by
  have hn0 : ((n : Int) == 0) = false := by simp; omega
  obtain ⟨x, hx'⟩ : ∃ x, x = xs.getD (n - 1) 0 := ⟨_, rfl⟩
  have hbx := h.at (i := n - 1) (by omega)
  rw [← hx'] at hbx
  have g1 : w.cell? ⟨b, off + (n - 1), none⟩ = some (.int .u8 x) := by rw [hx']; exact h.cell (n - 1) (by omega)
  have hand := and128_u8_lt x hbx.1 (by omega)
  have hw1 : IntKind.i64.wrap ((n : Int) - 1) = ((n - 1 : Nat) : Int) := by rw [IntKind.wrap_i64]; omega
  have hw1' : ((n : Int) - 1) = ((n - 1 : Nat) : Int) := by omega
  obtain ⟨m, hm⟩ : ∃ m, m = n - 1 := ⟨_, rfl⟩
  rw [← hm] at g1 hw1 hw1'
  have hm0 : (0 : Int) ≤ (m : Int) := by omega
  have hm1 : (m : Int) < (n : Int) := by omega
  have HB := hide h
  have HT := hide htab
  have HL := hide h.len
  have HLA := hide hlast
  have H0 : Hid (w.ownsRow w.heap.size 38 1 (.slice none 0 0) ([] : List Nat).length (u64s [])) := hide (World.ownsRow_nil w w.heap.size 38 1)
  clear h htab hx' hm hlast
  go_enter Ybad.func7, Ybad.ntmps7
  go_wp2_with fail
  clear hand g1 hw1 hw1' hm0 hm1 hbx
  go_loopw [4, 5, 6, 27] (fun va vv vf vi wr => ∃ (i v : Nat) (f : Bool) (rs : List Nat), i ≤ n ∧ vi = .int .i64 i ∧ vv = .int .u64 v ∧ vf = .bool f ∧ Hid (wr.ownsRow w.heap.size 38 1 va rs.length (u64s rs) ∧ Below w.heap.size w wr ∧ (oidScan xs 0 true = (oidScan (xs.drop i) v f).map fun l => rs ++ l) ∧ v ≤ 4294967375 ∧ rs.length ≤ i ∧ (∀ a ∈ rs, a ≤ 4294967375) ∧ (0 < i → f = decide (xs.getD (i - 1) 0 < 128)) ∧ (0 < i → f = true → 0 < rs.length))) (fun _ _ _ vi _ => n - (intOf vi).toNat)
  case atStart => exact ⟨0, 0, true, [], Nat.zero_le _, rfl, rfl, rfl, H0.out, Below.refl _ _, by simp, by omega, by simp, by simp, by omega, by omega⟩
  case round =>
    obtain ⟨i, v, f, rs, hin, rfl, rfl, rfl, hI⟩ := hrel
    obtain ⟨q1, q2, q3, q4, q5, q6, q7, q8⟩ := hI.out
    by_cases hlt : i < n
    · obtain ⟨x, hx⟩ : ∃ x, x = xs.getD i 0 := ⟨_, rfl⟩
      have hbx := HB.out.at hlt
      rw [← hx] at hbx
      have g1 : wr.cell? ⟨b, off + i, none⟩ = some (.int .u8 x) := by rw [hx]; exact (HB.out.on q2).cell i hlt
      have hdrop : xs.drop i = x :: xs.drop (i + 1) := by rw [hx]; exact getD_drop xs i (by rw [← HL.out]; exact hlt)
      rw [hdrop, oidScan] at q3
      have hi0 : (0 : Int) ≤ (i : Int) := by omega
      have hi1 : (i : Int) < (n : Int) := by omega
      by_cases c1 : f = true ∧ x = 128
      · rw [if_pos c1] at q3
        obtain ⟨rfl, hx128⟩ := c1
        have hxe : (x == 128) = true := by simp [hx128]
        have hfin : oidOf xs = none := by unfold oidOf; rw [q3]; rfl
        have Q2 := hide q2
        have Q3 := hide hfin
        clear q1 q2 q3 q4 q5 q6 q7 q8 hI hx hdrop hx128 hfin
        go_wp2_with fail
        go_ret2
        exact ⟨by rw [Q3.out]; rfl, Q2.out⟩
      · rw [if_neg c1] at q3
        obtain ⟨V, hV⟩ : ∃ V, V = sub7 v x := ⟨_, rfl⟩
        obtain ⟨y, hy⟩ : ∃ y, y = (x % 128).toNat := ⟨_, rfl⟩
        have hb7 := and127_u8 x hbx
        have hor := sub7_or v x hbx q4
        have hVb : V < 18446744073709551616 := by rw [hV]; unfold sub7; omega
        rw [← hy] at hb7 hor
        rw [← hV] at q3 hor
        have hyu : IntKind.u64.wrap (y : Int) = (y : Int) := by rw [IntKind.wrap_u64]; omega
        have hxi : xs.getD (i + 1 - 1) 0 = x := by rw [hx]; rfl
        clear hx hdrop hI hy hV
        cases f with
        | false =>
          clear c1
          by_cases c2 : 4294967375 < V
          · rw [if_pos c2] at q3
            have c2' : (4294967375 : Int) < (V : Int) := by omega
            have hfin : oidOf xs = none := by unfold oidOf; rw [q3]; rfl
            have Q2 := hide q2
            have Q3 := hide hfin
            clear q1 q2 q3 q4 q5 q6 q7 q8 hfin hxi
            go_wp2_with fail
            go_ret2
            exact ⟨by rw [Q3.out]; rfl, Q2.out⟩
          · rw [if_neg c2] at q3
            have c2' : ¬ (4294967375 : Int) < (V : Int) := by omega
            by_cases c3 : x < 128
            · rw [if_pos c3] at q3
              have hand := and128_u8_lt x hbx.1 c3
              have q3' := scan_map xs rs _ V q3
              have HQ := hide (And.intro q1 (And.intro q2 (And.intro q3' (And.intro q5 (And.intro q6 hxi)))))
              clear q1 q2 q3 q3' q4 q5 q6 q7 q8 hxi
              go_upto_region 18 with (at_builtin; refine wpList_arc rfl _ _ rfl w.heap.size u4 rs V rfl rfl HQ.out.1 HQ.out.2.1.size (by have := HQ.out.2.2.2.1; omega) ?_; intro v3 w3 ho3 hb3; have H3 := hide (And.intro ho3 (Below.trans HQ.out.2.1 hb3)); clear ho3 hb3)
              go_wp2_with fail
              go_roundw
              case rel =>
                refine ⟨i + 1, 0, true, rs ++ [V], by omega, by go_num, rfl, rfl, H3.out.1, H3.out.2, HQ.out.2.2.1, by omega, ?_, ?_, ?_, ?_⟩
                · have := HQ.out.2.2.2.1
                  simp only [List.length_append, List.length_cons, List.length_nil]; omega
                · intro a ha
                  rcases List.mem_append.1 ha with ha | ha
                  · exact HQ.out.2.2.2.2.1 a ha
                  · rw [List.mem_singleton.1 ha]; omega
                · intro _; rw [HQ.out.2.2.2.2.2]; exact (decide_eq_true c3).symm
                · intro _ _; simp
              case measure => simp [intOf]; omega
            · rw [if_neg c3] at q3
              have hand := and128_u8_ge x (by omega) hbx.2
              have HN : Hid (wr.ownsRow w.heap.size 38 1 u4 rs.length (u64s rs) ∧ Below w.heap.size w wr ∧ (oidScan xs 0 true = (oidScan (xs.drop (i + 1)) V false).map fun l => rs ++ l) ∧ V ≤ 4294967375 ∧ rs.length ≤ i + 1 ∧ (∀ a ∈ rs, a ≤ 4294967375) ∧ (0 < i + 1 → false = decide (xs.getD (i + 1 - 1) 0 < 128)) ∧ (0 < i + 1 → false = true → 0 < rs.length)) := ⟨q1, q2, q3, by omega, by omega, q6, fun _ => (by rw [hxi]; exact (decide_eq_false c3).symm), fun _ h => absurd h (by simp)⟩
              clear q1 q2 q3 q4 q5 q6 q7 q8 hxi
              go_wp2_with fail
              go_roundw
              case rel => exact ⟨i + 1, V, false, rs, by omega, by go_num, rfl, rfl, HN⟩
              case measure => simp [intOf]; omega
        | true =>
          have hxe : (x == 128) = false := by simp; intro hh; exact c1 ⟨rfl, hh⟩
          clear c1
          by_cases c2 : 4294967375 < V
          · rw [if_pos c2] at q3
            have c2' : (4294967375 : Int) < (V : Int) := by omega
            have hfin : oidOf xs = none := by unfold oidOf; rw [q3]; rfl
            have Q2 := hide q2
            have Q3 := hide hfin
            clear q1 q2 q3 q4 q5 q6 q7 q8 hfin hxi
            go_wp2_with fail
            go_ret2
            exact ⟨by rw [Q3.out]; rfl, Q2.out⟩
          · rw [if_neg c2] at q3
            have c2' : ¬ (4294967375 : Int) < (V : Int) := by omega
            by_cases c3 : x < 128
            · rw [if_pos c3] at q3
              have hand := and128_u8_lt x hbx.1 c3
              have q3' := scan_map xs rs _ V q3
              have HQ := hide (And.intro q1 (And.intro q2 (And.intro q3' (And.intro q5 (And.intro q6 hxi)))))
              clear q1 q2 q3 q3' q4 q5 q6 q7 q8 hxi
              go_upto_region 18 with (at_builtin; refine wpList_arc rfl _ _ rfl w.heap.size u4 rs V rfl rfl HQ.out.1 HQ.out.2.1.size (by have := HQ.out.2.2.2.1; omega) ?_; intro v3 w3 ho3 hb3; have H3 := hide (And.intro ho3 (Below.trans HQ.out.2.1 hb3)); clear ho3 hb3)
              go_wp2_with fail
              go_roundw
              case rel =>
                refine ⟨i + 1, 0, true, rs ++ [V], by omega, by go_num, rfl, rfl, H3.out.1, H3.out.2, HQ.out.2.2.1, by omega, ?_, ?_, ?_, ?_⟩
                · have := HQ.out.2.2.2.1
                  simp only [List.length_append, List.length_cons, List.length_nil]; omega
                · intro a ha
                  rcases List.mem_append.1 ha with ha | ha
                  · exact HQ.out.2.2.2.2.1 a ha
                  · rw [List.mem_singleton.1 ha]; omega
                · intro _; rw [HQ.out.2.2.2.2.2]; exact (decide_eq_true c3).symm
                · intro _ _; simp
              case measure => simp [intOf]; omega
            · rw [if_neg c3] at q3
              have hand := and128_u8_ge x (by omega) hbx.2
              have HN : Hid (wr.ownsRow w.heap.size 38 1 u4 rs.length (u64s rs) ∧ Below w.heap.size w wr ∧ (oidScan xs 0 true = (oidScan (xs.drop (i + 1)) V false).map fun l => rs ++ l) ∧ V ≤ 4294967375 ∧ rs.length ≤ i + 1 ∧ (∀ a ∈ rs, a ≤ 4294967375) ∧ (0 < i + 1 → false = decide (xs.getD (i + 1 - 1) 0 < 128)) ∧ (0 < i + 1 → false = true → 0 < rs.length)) := ⟨q1, q2, q3, by omega, by omega, q6, fun _ => (by rw [hxi]; exact (decide_eq_false c3).symm), fun _ h => absurd h (by simp)⟩
              clear q1 q2 q3 q4 q5 q6 q7 q8 hxi
              go_wp2_with fail
              go_roundw
              case rel => exact ⟨i + 1, V, false, rs, by omega, by go_num, rfl, rfl, HN⟩
              case measure => simp [intOf]; omega
    · obtain rfl : n = i := by omega
      have hf : f = true := by rw [q7 h1]; exact decide_eq_true HLA.out
      have hpos := q8 h1 hf
      rw [show xs.drop n = [] by rw [List.drop_eq_nil_iff, ← HL.out]; omega, oidScan, if_pos hf] at q3
      have q3' : oidScan xs 0 true = some rs := by rw [q3]; simp
      obtain ⟨g, cg, rfl⟩ := own_shape q1 hpos
      obtain ⟨N, hN⟩ : ∃ N, N = rs.length := ⟨_, rfl⟩
      obtain ⟨A, hA⟩ : ∃ A, A = rs.getD 0 0 := ⟨_, rfl⟩
      have ga : wr.cell? ⟨g, 0, none⟩ = some (.int .u64 (A : Int)) := by rw [hA]; exact own_arc q1 hpos
      have hAb : A ≤ 4294967375 := by
        have e : rs.getD 0 0 = rs[0] := by simp [List.getD, hpos]
        rw [hA, e]; exact q6 _ (List.getElem_mem hpos)
      rw [← hN] at hpos ⊢
      have hN0 : (0 : Int) < (N : Int) := by omega
      have hNn : N ≤ 1048576 := by omega
      obtain ⟨Z, hZ⟩ : ∃ Z, Z = A / 40 := ⟨_, rfl⟩
      obtain ⟨X, hX⟩ : ∃ X, X = arcX A := ⟨_, rfl⟩
      obtain ⟨Y, hY⟩ : ∃ Y, Y = arcY A := ⟨_, rfl⟩
      have hXZ : X = min Z 2 := by rw [hX, hZ]; rfl
      have hYV : A = Y + 40 * X := by rw [hY, hX]; unfold arcY arcX; omega
      have hq1 : Int.tdiv (A : Int) 40 = (Z : Int) := by rw [hZ]; exact Int.tdiv_eq_ediv_of_nonneg (by omega)
      have hq2 : (A : Int) / 40 = (Z : Int) := by rw [hZ]; omega
      have hX2 : X ≤ 2 := by omega
      have hw5 : IntKind.u64.wrap (40 * (X : Int)) = 40 * (X : Int) := by rw [IntKind.wrap_u64]; omega
      have hw6 : IntKind.u64.wrap ((A : Int) - 40 * (X : Int)) = (Y : Int) := by rw [IntKind.wrap_u64]; omega
      have hw7 : (A : Int) - 40 * (X : Int) = (Y : Int) := by omega
      have hfin : oidOf xs = if 4294967295 < Y ∨ tooBig (rs.drop 1) = true ∨ 128 < N + 1 then none else some (decDigits X ++ 46 :: decDigits Y ++ dots (rs.drop 1)) := by
        unfold oidOf
        rw [q3', hX, hY, hA, hN]
        cases rs with
        | nil => simp at hN; omega
        | cons a t => rfl
      have HQ := hide (And.intro q1 (And.intro q2 (And.intro hfin (And.intro q6 hN))))
      have hYb : Y < 18446744073709551616 := by omega
      clear q1 q2 q3 q3' q4 q5 q6 q7 q8 hI hf hX hY hA hfin hN
      by_cases cz : 2 < Z
      · obtain rfl : 2 = X := by omega
        have cz' : (2 : Int) < (Z : Int) := by omega
        have hw6' : IntKind.u64.wrap ((A : Int) - 80) = (Y : Int) := by rw [IntKind.wrap_u64]; omega
        have hw7' : (A : Int) - 80 = (Y : Int) := by omega
        clear hw5 hw6 hw7 hYV hXZ hZ
        by_cases c5 : 4294967295 < Y
        · have c5' : (4294967295 : Int) < (Y : Int) := by omega
          have hfin : oidOf xs = none := by rw [HQ.out.2.2.1, if_pos (Or.inl c5)]
          have HF := hide hfin
          clear hfin
          go_wp2_with fail
          go_ret2
          exact ⟨by rw [HF.out]; rfl, HQ.out.2.1⟩
        · have c5' : ¬ (4294967295 : Int) < (Y : Int) := by omega
          go_wp2_with fail
          go_loop [11] (fun vj => ∃ j : Nat, 1 ≤ j ∧ j ≤ N ∧ vj = .int .i64 j ∧ Hid (∀ k, 1 ≤ k → k < j → ¬ 4294967295 < rs.getD k 0)) (fun vj => N - (intOf vj).toNat)
          case atStart => exact ⟨1, by omega, by omega, rfl, fun k _ _ => by omega⟩
          case round =>
            obtain ⟨j, hj1, hjN, rfl, hJ⟩ := hrel
            by_cases hjlt : j < N
            · obtain ⟨E, hE⟩ : ∃ E, E = rs.getD j 0 := ⟨_, rfl⟩
              have gj : wr.cell? ⟨g, j, none⟩ = some (.int .u64 (E : Int)) := by rw [hE]; exact own_arc HQ.out.1 (by rw [← HQ.out.2.2.2.2]; exact hjlt)
              have hj0 : (0 : Int) ≤ (j : Int) := by omega
              have hjl : (j : Int) < (N : Int) := by omega
              by_cases c8 : 4294967295 < E
              · have c8' : (4294967295 : Int) < (E : Int) := by omega
                have hfin : oidOf xs = none := by
                  rw [HQ.out.2.2.1, if_pos (Or.inr (Or.inl (tooBig_true (k := j - 1) ?_ ?_)))]
                  · rw [List.length_drop, ← HQ.out.2.2.2.2]; omega
                  · rw [getD_drop1 rs j hj1, ← hE]; exact c8
                have HF := hide hfin
                clear hfin hE
                go_wp2_with fail
                go_ret2
                exact ⟨by rw [HF.out]; rfl, HQ.out.2.1⟩
              · have c8' : ¬ (4294967295 : Int) < (E : Int) := by omega
                have HN : Hid (∀ k, 1 ≤ k → k < j + 1 → ¬ 4294967295 < rs.getD k 0) := by
                  intro k hk1 hk2
                  by_cases e : k = j
                  · rw [e, ← hE]; exact c8
                  · exact hJ.out k hk1 (by omega)
                clear hE
                go_wp2_with fail
                go_round
                case rel => exact ⟨j + 1, by omega, by omega, by go_num, HN⟩
                case measure => simp [intOf]; omega
            · obtain rfl : N = j := by omega
              have htb : tooBig (rs.drop 1) = false := tooBig_false (fun k hk => by
                rw [List.length_drop, ← HQ.out.2.2.2.2] at hk
                rw [show (rs.drop 1).getD k 0 = rs.getD (k + 1) 0 by simp [List.getD]]
                exact hJ.out (k + 1) (by omega) (by omega))
              have hw9 : IntKind.i64.wrap ((N : Int) + 1) = (N : Int) + 1 := by rw [IntKind.wrap_i64]; omega
              by_cases c9 : 128 < N + 1
              · have c9' : (128 : Int) < (N : Int) + 1 := by omega
                have hfin : oidOf xs = none := by rw [HQ.out.2.2.1, if_pos (Or.inr (Or.inr c9))]
                have HF := hide hfin
                clear hfin htb hJ
                go_wp2_with fail
                go_ret2
                exact ⟨by rw [HF.out]; rfl, HQ.out.2.1⟩
              · have c9' : ¬ (128 : Int) < (N : Int) + 1 := by omega
                have hfin : oidOf xs = some (decDigits 2 ++ 46 :: decDigits Y ++ dots (rs.drop 1)) := by
                  rw [HQ.out.2.2.1, if_neg]
                  rintro (hh | hh | hh)
                  · exact c5 hh
                  · rw [htb] at hh; cases hh
                  · exact c9 hh
                have HF := hide hfin
                clear hfin htb hJ
                have hle := dec_len 2 (by omega)
                have hle2 := dec_len Y (by omega)
                have HAP : Hid (Calls Ybad.prog 13 #[.slice none 0 0, .int .u64 2, .int .i64 10] wr fun e w' => ∃ v', e = .returned v' ∧ (w'.ownsRow w.heap.size 5 1 v' (decDigits 2).length (byteCells (decDigits 2)) ∧ Below w.heap.size w w' ∧ w'.ownsRow w.heap.size 38 1 (.slice (some ⟨g, 0, none⟩) N cg) rs.length (u64s rs))) := by
                  refine (appU w.heap.size 0 2 (by omega) (.slice none 0 0) [] wr (World.ownsRow_nil _ _ _ _) HQ.out.2.1.size (by omega) (HT.out.on HQ.out.2.1)).mono ?_
                  rintro e w' ⟨v', he, ho, hb, hk⟩
                  refine ⟨v', he, ?_, HQ.out.2.1.trans hb, ownsRow_others (by rw [HQ.out.2.2.2.2]; exact HQ.out.1) (by decide) hk⟩
                  rw [Nat.zero_add, List.nil_append] at ho
                  exact ho
                go_upto_region 36 with (go_at_call 13; refine HAP.out.mono ?_; rintro e w2 ⟨v2, rfl, hh⟩; have H2 := hide hh; clear hh)
                go_upto_region 37 with (at_builtin; refine wpList_byte rfl _ _ rfl w.heap.size v2 (decDigits 2) 46 rfl rfl H2.out.1 H2.out.2.1.size (by omega) ?_; intro v3 w3 ho3 hb3 hk3; have H3 := hide (And.intro ho3 (And.intro (Below.trans H2.out.2.1 hb3) (ownsRow_others H2.out.2.2 (by decide) hk3))); clear ho3 hb3 hk3)
                have HAP2 : Hid (Calls Ybad.prog 13 #[v3, .int .u64 Y, .int .i64 10] w3 fun e w' => ∃ v', e = .returned v' ∧ (w'.ownsRow w.heap.size 5 1 v' (decDigits 2 ++ [46] ++ decDigits Y).length (byteCells (decDigits 2 ++ [46] ++ decDigits Y)) ∧ Below w.heap.size w w' ∧ w'.ownsRow w.heap.size 38 1 (.slice (some ⟨g, 0, none⟩) N cg) rs.length (u64s rs))) := by
                  refine (appU w.heap.size (decDigits 2 ++ [46]).length Y hYb v3 _ w3 H3.out.1 H3.out.2.1.size (by simp only [List.length_append, List.length_cons, List.length_nil]; omega) (HT.out.on H3.out.2.1)).mono ?_
                  rintro e w' ⟨v', he, ho, hb, hk⟩
                  exact ⟨v', he, own_app ho, H3.out.2.1.trans hb, ownsRow_others H3.out.2.2 (by decide) hk⟩
                go_wp2_with (go_at_call 13; refine HAP2.out.mono ?_; rintro e w4 ⟨v4, rfl, hh⟩; have H4 := hide hh; clear hh)
                obtain ⟨P0, hP0⟩ : ∃ P0, P0 = decDigits 2 ++ [46] ++ decDigits Y := ⟨_, rfl⟩
                have hP0l : P0.length ≤ 41 := by rw [hP0]; simp only [List.length_append, List.length_cons, List.length_nil]; omega
                have HP0 := hide hP0
                clear hP0
                go_loopw [12, 13] (fun vo vj w5 => ∃ j : Nat, 1 ≤ j ∧ j ≤ N ∧ vj = .int .i64 j ∧ Hid (w5.ownsRow w.heap.size 5 1 vo (P0 ++ dots ((rs.drop 1).take (j - 1))).length (byteCells (P0 ++ dots ((rs.drop 1).take (j - 1)))) ∧ Below w.heap.size w w5 ∧ w5.ownsRow w.heap.size 38 1 (.slice (some ⟨g, 0, none⟩) N cg) rs.length (u64s rs))) (fun _ vj _ => N - (intOf vj).toNat)
                case atStart =>
                  refine ⟨1, by omega, by omega, rfl, ?_, H4.out.2.1, H4.out.2.2⟩
                  rw [show dots ((rs.drop 1).take (1 - 1)) = [] by simp [dots], List.append_nil, HP0.out]
                  exact H4.out.1
                case round =>
                  obtain ⟨j, hj1, hjN, rfl, hJ⟩ := hrel
                  by_cases hjlt : j < N
                  · obtain ⟨E, hE⟩ : ∃ E, E = rs.getD j 0 := ⟨_, rfl⟩
                    have hjr : j < rs.length := by rw [← HQ.out.2.2.2.2]; exact hjlt
                    have gj : wr.cell? ⟨g, j, none⟩ = some (.int .u64 (E : Int)) := by rw [hE]; exact own_arc hJ.out.2.2 hjr
                    have hEb : E ≤ 4294967375 := by
                      have e : rs.getD j 0 = rs[j] := by simp [List.getD, hjr]
                      rw [hE, e]; exact HQ.out.2.2.2.1 _ (List.getElem_mem hjr)
                    have hj0 : (0 : Int) ≤ (j : Int) := by omega
                    have hjl : (j : Int) < (N : Int) := by omega
                    obtain ⟨D, hD⟩ : ∃ D, D = P0 ++ dots ((rs.drop 1).take (j - 1)) := ⟨_, rfl⟩
                    have hDl : D.length ≤ 41 + 21 * N := by
                      have h2 := dots_len ((rs.drop 1).take (j - 1)) (fun a ha => by have := HQ.out.2.2.2.1 a (List.mem_of_mem_drop (List.mem_of_mem_take ha)); omega)
                      have h3 : ((rs.drop 1).take (j - 1)).length ≤ N := by rw [List.length_take, List.length_drop, ← HQ.out.2.2.2.2]; omega
                      rw [hD, List.length_append]
                      omega
                    have hnew : D ++ [46] ++ decDigits E = P0 ++ dots ((rs.drop 1).take (j + 1 - 1)) := by
                      have e := dots_take (rs.drop 1) (j - 1) (by rw [List.length_drop, ← HQ.out.2.2.2.2]; omega)
                      rw [getD_drop1 rs j hj1, ← hE] at e
                      rw [show j + 1 - 1 = (j - 1) + 1 by omega, e, hD]
                      simp [List.append_assoc]
                    have hleE := dec_len E (by omega)
                    have hJ' := hJ.out
                    rw [← hD] at hJ'
                    have HJ := hide hJ'
                    have HNW := hide hnew
                    clear hnew hE hD hJ' hJ
                    go_upto_region 42 with (at_builtin; refine wpList_byte rfl _ _ rfl w.heap.size u12 D 46 rfl rfl HJ.out.1 HJ.out.2.1.size (by omega) ?_; intro v6 w6 ho6 hb6 hk6; have H6 := hide (And.intro ho6 (And.intro (Below.trans HJ.out.2.1 hb6) (ownsRow_others HJ.out.2.2 (by decide) hk6))); clear ho6 hb6 hk6)
                    have gj6 : w6.cell? ⟨g, j, none⟩ = some (.int .u64 (E : Int)) := by
                      have e1 := own_arc H6.out.2.2 hjr
                      have e2 := own_arc HJ.out.2.2 hjr
                      rw [e1, ← e2]; exact gj
                    have HAP6 : Hid (Calls Ybad.prog 13 #[v6, .int .u64 E, .int .i64 10] w6 fun e w' => ∃ v', e = .returned v' ∧ (w'.ownsRow w.heap.size 5 1 v' (D ++ [46] ++ decDigits E).length (byteCells (D ++ [46] ++ decDigits E)) ∧ Below w.heap.size w w' ∧ w'.ownsRow w.heap.size 38 1 (.slice (some ⟨g, 0, none⟩) N cg) rs.length (u64s rs))) := by
                      refine (appU w.heap.size (D ++ [46]).length E (by omega) v6 _ w6 H6.out.1 H6.out.2.1.size (by simp only [List.length_append, List.length_cons, List.length_nil]; omega) (HT.out.on H6.out.2.1)).mono ?_
                      rintro e w' ⟨v', he, ho, hb, hk⟩
                      exact ⟨v', he, own_app ho, H6.out.2.1.trans hb, ownsRow_others H6.out.2.2 (by decide) hk⟩
                    clear gj
                    go_wp2_with (go_at_call 13; refine HAP6.out.mono ?_; rintro e w7 ⟨v7, rfl, hh⟩; have H7 := hide hh; clear hh)
                    go_roundw
                    case rel =>
                      refine ⟨j + 1, by omega, by omega, by go_num, ?_, H7.out.2.1, H7.out.2.2⟩
                      rw [← HNW.out]; exact H7.out.1
                    case measure => simp [intOf]; omega
                  · obtain rfl : N = j := by omega
                    have hall : P0 ++ dots ((rs.drop 1).take (N - 1)) = decDigits 2 ++ 46 :: decDigits Y ++ dots (rs.drop 1) := by
                      rw [List.take_of_length_le (by rw [List.length_drop, ← HQ.out.2.2.2.2]; omega), HP0.out]
                      simp [List.append_assoc]
                    have hJ1 := hJ.out.1
                    rw [hall] at hJ1
                    have hcv := own_string w.heap.size u12 _ wr hJ1 (by simp only [List.length_append, List.length_cons]; omega)
                    obtain ⟨T, hT⟩ : ∃ T, T = decDigits 2 ++ 46 :: decDigits Y ++ dots (rs.drop 1) := ⟨_, rfl⟩
                    rw [← hT] at hcv
                    have HTT := hide hT
                    clear hJ1 hall hT
                    go_wp2_with fail
                    go_ret2
                    exact ⟨by rw [HF.out, ← HTT.out]; rfl, hJ.out.2.1⟩
      · obtain rfl : Z = X := by omega
        have cz' : ¬ (2 : Int) < (Z : Int) := by omega
        clear hYV hXZ hZ
        by_cases c5 : 4294967295 < Y
        · have c5' : (4294967295 : Int) < (Y : Int) := by omega
          have hfin : oidOf xs = none := by rw [HQ.out.2.2.1, if_pos (Or.inl c5)]
          have HF := hide hfin
          clear hfin
          go_wp2_with fail
          go_ret2
          exact ⟨by rw [HF.out]; rfl, HQ.out.2.1⟩
        · have c5' : ¬ (4294967295 : Int) < (Y : Int) := by omega
          go_wp2_with fail
          go_loop [11] (fun vj => ∃ j : Nat, 1 ≤ j ∧ j ≤ N ∧ vj = .int .i64 j ∧ Hid (∀ k, 1 ≤ k → k < j → ¬ 4294967295 < rs.getD k 0)) (fun vj => N - (intOf vj).toNat)
          case atStart => exact ⟨1, by omega, by omega, rfl, fun k _ _ => by omega⟩
          case round =>
            obtain ⟨j, hj1, hjN, rfl, hJ⟩ := hrel
            by_cases hjlt : j < N
            · obtain ⟨E, hE⟩ : ∃ E, E = rs.getD j 0 := ⟨_, rfl⟩
              have gj : wr.cell? ⟨g, j, none⟩ = some (.int .u64 (E : Int)) := by rw [hE]; exact own_arc HQ.out.1 (by rw [← HQ.out.2.2.2.2]; exact hjlt)
              have hj0 : (0 : Int) ≤ (j : Int) := by omega
              have hjl : (j : Int) < (N : Int) := by omega
              by_cases c8 : 4294967295 < E
              · have c8' : (4294967295 : Int) < (E : Int) := by omega
                have hfin : oidOf xs = none := by
                  rw [HQ.out.2.2.1, if_pos (Or.inr (Or.inl (tooBig_true (k := j - 1) ?_ ?_)))]
                  · rw [List.length_drop, ← HQ.out.2.2.2.2]; omega
                  · rw [getD_drop1 rs j hj1, ← hE]; exact c8
                have HF := hide hfin
                clear hfin hE
                go_wp2_with fail
                go_ret2
                exact ⟨by rw [HF.out]; rfl, HQ.out.2.1⟩
              · have c8' : ¬ (4294967295 : Int) < (E : Int) := by omega
                have HN : Hid (∀ k, 1 ≤ k → k < j + 1 → ¬ 4294967295 < rs.getD k 0) := by
                  intro k hk1 hk2
                  by_cases e : k = j
                  · rw [e, ← hE]; exact c8
                  · exact hJ.out k hk1 (by omega)
                clear hE
                go_wp2_with fail
                go_round
                case rel => exact ⟨j + 1, by omega, by omega, by go_num, HN⟩
                case measure => simp [intOf]; omega
            · obtain rfl : N = j := by omega
              have htb : tooBig (rs.drop 1) = false := tooBig_false (fun k hk => by
                rw [List.length_drop, ← HQ.out.2.2.2.2] at hk
                rw [show (rs.drop 1).getD k 0 = rs.getD (k + 1) 0 by simp [List.getD]]
                exact hJ.out (k + 1) (by omega) (by omega))
              have hw9 : IntKind.i64.wrap ((N : Int) + 1) = (N : Int) + 1 := by rw [IntKind.wrap_i64]; omega
              by_cases c9 : 128 < N + 1
              · have c9' : (128 : Int) < (N : Int) + 1 := by omega
                have hfin : oidOf xs = none := by rw [HQ.out.2.2.1, if_pos (Or.inr (Or.inr c9))]
                have HF := hide hfin
                clear hfin htb hJ
                go_wp2_with fail
                go_ret2
                exact ⟨by rw [HF.out]; rfl, HQ.out.2.1⟩
              · have c9' : ¬ (128 : Int) < (N : Int) + 1 := by omega
                have hfin : oidOf xs = some (decDigits Z ++ 46 :: decDigits Y ++ dots (rs.drop 1)) := by
                  rw [HQ.out.2.2.1, if_neg]
                  rintro (hh | hh | hh)
                  · exact c5 hh
                  · rw [htb] at hh; cases hh
                  · exact c9 hh
                have HF := hide hfin
                clear hfin htb hJ
                have hle := dec_len Z (by omega)
                have hle2 := dec_len Y (by omega)
                have HAP : Hid (Calls Ybad.prog 13 #[.slice none 0 0, .int .u64 Z, .int .i64 10] wr fun e w' => ∃ v', e = .returned v' ∧ (w'.ownsRow w.heap.size 5 1 v' (decDigits Z).length (byteCells (decDigits Z)) ∧ Below w.heap.size w w' ∧ w'.ownsRow w.heap.size 38 1 (.slice (some ⟨g, 0, none⟩) N cg) rs.length (u64s rs))) := by
                  refine (appU w.heap.size 0 Z (by omega) (.slice none 0 0) [] wr (World.ownsRow_nil _ _ _ _) HQ.out.2.1.size (by omega) (HT.out.on HQ.out.2.1)).mono ?_
                  rintro e w' ⟨v', he, ho, hb, hk⟩
                  refine ⟨v', he, ?_, HQ.out.2.1.trans hb, ownsRow_others (by rw [HQ.out.2.2.2.2]; exact HQ.out.1) (by decide) hk⟩
                  rw [Nat.zero_add, List.nil_append] at ho
                  exact ho
                go_upto_region 36 with (go_at_call 13; refine HAP.out.mono ?_; rintro e w2 ⟨v2, rfl, hh⟩; have H2 := hide hh; clear hh)
                go_upto_region 37 with (at_builtin; refine wpList_byte rfl _ _ rfl w.heap.size v2 (decDigits Z) 46 rfl rfl H2.out.1 H2.out.2.1.size (by omega) ?_; intro v3 w3 ho3 hb3 hk3; have H3 := hide (And.intro ho3 (And.intro (Below.trans H2.out.2.1 hb3) (ownsRow_others H2.out.2.2 (by decide) hk3))); clear ho3 hb3 hk3)
                have HAP2 : Hid (Calls Ybad.prog 13 #[v3, .int .u64 Y, .int .i64 10] w3 fun e w' => ∃ v', e = .returned v' ∧ (w'.ownsRow w.heap.size 5 1 v' (decDigits Z ++ [46] ++ decDigits Y).length (byteCells (decDigits Z ++ [46] ++ decDigits Y)) ∧ Below w.heap.size w w' ∧ w'.ownsRow w.heap.size 38 1 (.slice (some ⟨g, 0, none⟩) N cg) rs.length (u64s rs))) := by
                  refine (appU w.heap.size (decDigits Z ++ [46]).length Y hYb v3 _ w3 H3.out.1 H3.out.2.1.size (by simp only [List.length_append, List.length_cons, List.length_nil]; omega) (HT.out.on H3.out.2.1)).mono ?_
                  rintro e w' ⟨v', he, ho, hb, hk⟩
                  exact ⟨v', he, own_app ho, H3.out.2.1.trans hb, ownsRow_others H3.out.2.2 (by decide) hk⟩
                go_wp2_with (go_at_call 13; refine HAP2.out.mono ?_; rintro e w4 ⟨v4, rfl, hh⟩; have H4 := hide hh; clear hh)
                obtain ⟨P0, hP0⟩ : ∃ P0, P0 = decDigits Z ++ [46] ++ decDigits Y := ⟨_, rfl⟩
                have hP0l : P0.length ≤ 41 := by rw [hP0]; simp only [List.length_append, List.length_cons, List.length_nil]; omega
                have HP0 := hide hP0
                clear hP0
                go_loopw [12, 13] (fun vo vj w5 => ∃ j : Nat, 1 ≤ j ∧ j ≤ N ∧ vj = .int .i64 j ∧ Hid (w5.ownsRow w.heap.size 5 1 vo (P0 ++ dots ((rs.drop 1).take (j - 1))).length (byteCells (P0 ++ dots ((rs.drop 1).take (j - 1)))) ∧ Below w.heap.size w w5 ∧ w5.ownsRow w.heap.size 38 1 (.slice (some ⟨g, 0, none⟩) N cg) rs.length (u64s rs))) (fun _ vj _ => N - (intOf vj).toNat)
                case atStart =>
                  refine ⟨1, by omega, by omega, rfl, ?_, H4.out.2.1, H4.out.2.2⟩
                  rw [show dots ((rs.drop 1).take (1 - 1)) = [] by simp [dots], List.append_nil, HP0.out]
                  exact H4.out.1
                case round =>
                  obtain ⟨j, hj1, hjN, rfl, hJ⟩ := hrel
                  by_cases hjlt : j < N
                  · obtain ⟨E, hE⟩ : ∃ E, E = rs.getD j 0 := ⟨_, rfl⟩
                    have hjr : j < rs.length := by rw [← HQ.out.2.2.2.2]; exact hjlt
                    have gj : wr.cell? ⟨g, j, none⟩ = some (.int .u64 (E : Int)) := by rw [hE]; exact own_arc hJ.out.2.2 hjr
                    have hEb : E ≤ 4294967375 := by
                      have e : rs.getD j 0 = rs[j] := by simp [List.getD, hjr]
                      rw [hE, e]; exact HQ.out.2.2.2.1 _ (List.getElem_mem hjr)
                    have hj0 : (0 : Int) ≤ (j : Int) := by omega
                    have hjl : (j : Int) < (N : Int) := by omega
                    obtain ⟨D, hD⟩ : ∃ D, D = P0 ++ dots ((rs.drop 1).take (j - 1)) := ⟨_, rfl⟩
                    have hDl : D.length ≤ 41 + 21 * N := by
                      have h2 := dots_len ((rs.drop 1).take (j - 1)) (fun a ha => by have := HQ.out.2.2.2.1 a (List.mem_of_mem_drop (List.mem_of_mem_take ha)); omega)
                      have h3 : ((rs.drop 1).take (j - 1)).length ≤ N := by rw [List.length_take, List.length_drop, ← HQ.out.2.2.2.2]; omega
                      rw [hD, List.length_append]
                      omega
                    have hnew : D ++ [46] ++ decDigits E = P0 ++ dots ((rs.drop 1).take (j + 1 - 1)) := by
                      have e := dots_take (rs.drop 1) (j - 1) (by rw [List.length_drop, ← HQ.out.2.2.2.2]; omega)
                      rw [getD_drop1 rs j hj1, ← hE] at e
                      rw [show j + 1 - 1 = (j - 1) + 1 by omega, e, hD]
                      simp [List.append_assoc]
                    have hleE := dec_len E (by omega)
                    have hJ' := hJ.out
                    rw [← hD] at hJ'
                    have HJ := hide hJ'
                    have HNW := hide hnew
                    clear hnew hE hD hJ' hJ
                    go_upto_region 42 with (at_builtin; refine wpList_byte rfl _ _ rfl w.heap.size u12 D 46 rfl rfl HJ.out.1 HJ.out.2.1.size (by omega) ?_; intro v6 w6 ho6 hb6 hk6; have H6 := hide (And.intro ho6 (And.intro (Below.trans HJ.out.2.1 hb6) (ownsRow_others HJ.out.2.2 (by decide) hk6))); clear ho6 hb6 hk6)
                    have gj6 : w6.cell? ⟨g, j, none⟩ = some (.int .u64 (E : Int)) := by
                      have e1 := own_arc H6.out.2.2 hjr
                      have e2 := own_arc HJ.out.2.2 hjr
                      rw [e1, ← e2]; exact gj
                    have HAP6 : Hid (Calls Ybad.prog 13 #[v6, .int .u64 E, .int .i64 10] w6 fun e w' => ∃ v', e = .returned v' ∧ (w'.ownsRow w.heap.size 5 1 v' (D ++ [46] ++ decDigits E).length (byteCells (D ++ [46] ++ decDigits E)) ∧ Below w.heap.size w w' ∧ w'.ownsRow w.heap.size 38 1 (.slice (some ⟨g, 0, none⟩) N cg) rs.length (u64s rs))) := by
                      refine (appU w.heap.size (D ++ [46]).length E (by omega) v6 _ w6 H6.out.1 H6.out.2.1.size (by simp only [List.length_append, List.length_cons, List.length_nil]; omega) (HT.out.on H6.out.2.1)).mono ?_
                      rintro e w' ⟨v', he, ho, hb, hk⟩
                      exact ⟨v', he, own_app ho, H6.out.2.1.trans hb, ownsRow_others H6.out.2.2 (by decide) hk⟩
                    clear gj
                    go_wp2_with (go_at_call 13; refine HAP6.out.mono ?_; rintro e w7 ⟨v7, rfl, hh⟩; have H7 := hide hh; clear hh)
                    go_roundw
                    case rel =>
                      refine ⟨j + 1, by omega, by omega, by go_num, ?_, H7.out.2.1, H7.out.2.2⟩
                      rw [← HNW.out]; exact H7.out.1
                    case measure => simp [intOf]; omega
                  · obtain rfl : N = j := by omega
                    have hall : P0 ++ dots ((rs.drop 1).take (N - 1)) = decDigits Z ++ 46 :: decDigits Y ++ dots (rs.drop 1) := by
                      rw [List.take_of_length_le (by rw [List.length_drop, ← HQ.out.2.2.2.2]; omega), HP0.out]
                      simp [List.append_assoc]
                    have hJ1 := hJ.out.1
                    rw [hall] at hJ1
                    have hcv := own_string w.heap.size u12 _ wr hJ1 (by simp only [List.length_append, List.length_cons]; omega)
                    obtain ⟨T, hT⟩ : ∃ T, T = decDigits Z ++ 46 :: decDigits Y ++ dots (rs.drop 1) := ⟨_, rfl⟩
                    rw [← hT] at hcv
                    have HTT := hide hT
                    clear hJ1 hall hT
                    go_wp2_with fail
                    go_ret2
                    exact ⟨by rw [HF.out, ← HTT.out]; rfl, hJ.out.2.1⟩
end Go.Proofs.YbulkdphmDoor
