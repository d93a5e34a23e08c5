/-
  THE SHELL OF A PROOF OF 'Rows.LawS5806CWholeSaid' ('example.com/rillstack/rillstack/internal/search.LawS5806CWhole'), WRITTEN BY PROGRAM (proof-skeleton.mjs) off the guide's own print for that function..
  THE WALK IS TYPED BY HAND. ALL ELSE IS THE GUIDE's TEMPLATE (howto/template/XProofs.lean) at this function's number and types: leave it.
-/
import Derived.Test.YbulkdpfiRows
import Derived.WalkKit
import Derived.ProofKit
import Derived.OpenShut
import Derived.ShutString
import Derived.WalkLawsBesides
namespace Go.Proofs.Ybulkdpfi.lawS5806CWhole
open Go.ChangeShapes Go.WideShapes Go.ChangeAt Go.RowKit
open Go.ChangeMaps (open_string shut_string)
set_option linter.unusedVariables false      -- a walk need not use every 'w<i>' (that an integer argument fits its kind)

theorem own : ownKnob Yba.prog.godebug = none := by kernel_rfl

/-! ### STEP 1: THE WALK: the Go text returns true, a theorem a way: no arguments held or some; argument i given or not. -/
theorem info56 : (Yba.prog.info? 56).map (fun i => (i.zero, i.size, i.bytes)) = some (some (.agg #[.int .u8 0, .string ByteArray.empty, .float .f64 0, .int .i64 0, .slice none 0 0]), 5, 64) := by kernel_rfl

/-- 'make([]value, n)': some new row, behind whatever lies there. -/
theorem make_any (n : Nat) (hn : n ≤ 255) (w : World) : ∃ C : Array Value,
    (Instr.makeSlice 26 (.int .i64 (n : Int)) (.int .i64 (n : Int))).run Yba.prog w = .ok (.slice (some ⟨w.heap.size, 0, none⟩) n n) (w.alloc (.cells C 56)) := by
  obtain ⟨i0, hi, hz0, hz1, hz2⟩ := info_parts info56
  have h := run_make (P := Yba.prog) w 26 56 i0 _ Yba.underlying26 hi hz0 .i64 .i64 n n (by omega) (Int.le_refl _) (by rw [hz2]; omega) (by omega)
  rw [Int.toNat_natCast] at h
  exact ⟨_, h⟩

theorem at_head (x : Value) (B : Array Value) : (#[x] ++ B)[0]? = some x := by
  rw [Array.getElem?_append_left (by simp)]; rfl

theorem none_given (a1 a2 a3 : Int) (a4 : Bool) (hi : a1 < 0) (w : World) :
    Calls Yba.prog 5 #[.int .u8 0, .int .i64 a1, .int .i64 a2, .int .i64 a3, .bool a4] w fun e w' => e = .returned (.bool true) ∧ Grown w w' := by
  have hat := at_head
  go_enter Yba.func5, Yba.ntmps5
  go_wp2
  go_region
  all_goals go_wp2
  go_ret
  exact ⟨rfl, by repeat (first | exact Grown.refl _ | apply Grown.drew | apply Grown.alloc)⟩

theorem none_else (a1 a2 a3 : Int) (a4 : Bool) (hi : ¬ a1 < 0) (w : World) :
    Calls Yba.prog 5 #[.int .u8 0, .int .i64 a1, .int .i64 a2, .int .i64 a3, .bool a4] w fun e w' => e = .returned (.bool true) ∧ Grown w w' := by
  go_enter Yba.func5, Yba.ntmps5
  go_wp2
  go_ret
  exact ⟨rfl, by repeat (first | exact Grown.refl _ | apply Grown.drew | apply Grown.alloc)⟩

theorem some_given (n : Nat) (hn : 0 < (n : Int)) (hn' : n ≤ 255) (a1 a2 a3 : Int) (a4 : Bool) (hi : a1 < (n : Int)) (w : World) :
    Calls Yba.prog 5 #[.int .u8 (n : Int), .int .i64 a1, .int .i64 a2, .int .i64 a3, .bool a4] w fun e w' => e = .returned (.bool true) ∧ Grown w w' := by
  have hat := at_head
  obtain ⟨C, hC⟩ := make_any n hn' ((w.alloc (.cells #[.int .i64 a3] 3)).alloc (.cells #[.bool a4] 4))
  go_enter Yba.func5, Yba.ntmps5
  go_wp2
  go_region
  all_goals go_wp2
  go_ret
  exact ⟨rfl, by repeat (first | exact Grown.refl _ | apply Grown.drew | apply Grown.alloc)⟩

theorem some_else (n : Nat) (hn : 0 < (n : Int)) (hn' : n ≤ 255) (a1 a2 a3 : Int) (a4 : Bool) (hi : ¬ a1 < (n : Int)) (w : World) :
    Calls Yba.prog 5 #[.int .u8 (n : Int), .int .i64 a1, .int .i64 a2, .int .i64 a3, .bool a4] w fun e w' => e = .returned (.bool true) ∧ Grown w w' := by
  obtain ⟨C, hC⟩ := make_any n hn' ((w.alloc (.cells #[.int .i64 a3] 3)).alloc (.cells #[.bool a4] 4))
  go_enter Yba.func5, Yba.ntmps5
  go_wp2
  go_ret
  exact ⟨rfl, by repeat (first | exact Grown.refl _ | apply Grown.drew | apply Grown.alloc)⟩

theorem walk (a0 : Int) (a1 : Int) (a2 : Int) (a3 : Int) (a4 : Bool) (w0 : (Lit.int .u8 a0).wf = true) (w1 : (Lit.int .i64 a1).wf = true) (w2 : (Lit.int .i64 a2).wf = true) (w3 : (Lit.int .i64 a3).wf = true) (w : World) :
    Calls Yba.prog 5 #[.int .u8 a0, .int .i64 a1, .int .i64 a2, .int .i64 a3, .bool a4] w fun e w' => e = .returned (.bool true) ∧ Grown w w' := by
  have hb := bounds_u8 w0
  by_cases h0 : a0 = 0
  · subst h0
    by_cases hi : a1 < 0
    · exact none_given a1 a2 a3 a4 hi w
    · exact none_else a1 a2 a3 a4 hi w
  · obtain ⟨n, rfl⟩ := Int.eq_ofNat_of_zero_le hb.1
    by_cases hi : a1 < (n : Int)
    · exact some_given n (by omega) (by omega) a1 a2 a3 a4 hi w
    · exact some_else n (by omega) (by omega) a1 a2 a3 a4 hi w

/-! ### THE ROW's STEP: WRITTEN OUT: LEAVE IT -/
set_option maxRecDepth 100000 in
theorem lifted (os : Os) (started : os.Started) (H : Type) (enc : TypeId × Value → H) :
    ReturnsInHanded {} Yba.checked os 5 .any (Rows.lawS5806CWholeSpec.pre6 enc Yba.prog Yba.f5 Rows.lawS5806CWholeRow.domain false) (Rows.lawS5806CWholeSpec.post enc Yba.prog Yba.f5 false true false false) := by
  refine returnsInHanded_of_change (C := Yba.checked) own started (by kernel_rfl) Yba.func5
    (ChangeSpec.witness6 (enc := enc) (C := Yba.checked) false ⟨#[], #[.int .u8 0, .int .i64 0, .int .i64 0, .int .i64 0, .bool false], []⟩ 8 (by kernel_rfl) (by kernel_rfl) (by kernel_rfl) (by kernel_rfl)) ?_
  intro W base args ds gs before hval0 hW hcnd _
  have hval : ∀ (j : Nat) t v, Yba.f5.params[j]? = some t → args[j]? = some v → Value.okWide Yba.prog W .any base t v := hval0
  have hW' := hW
  obtain ⟨p, q, hA0, hV, rfl, hfz, hnd⟩ := hW
  have hA : DataW.TrodAll enc Yba.prog W 0 (fun _ => true) true Yba.f5.params.toList args.toList ds p := hA0
  rw [Yba.params5] at hA hval
  obtain ⟨v0, vs0, d0, ds0, p0, q0, hargs, rfl, rfl, h0, r0⟩ := trodAll_cons hA
  obtain ⟨v1, vs1, d1, ds1, p1, q1, rfl, rfl, rfl, h1, r1⟩ := trodAll_cons r0
  obtain ⟨v2, vs2, d2, ds2, p2, q2, rfl, rfl, rfl, h2, r2⟩ := trodAll_cons r1
  obtain ⟨v3, vs3, d3, ds3, p3, q3, rfl, rfl, rfl, h3, r3⟩ := trodAll_cons r2
  obtain ⟨v4, vs4, d4, ds4, p4, q4, rfl, rfl, rfl, h4, r4⟩ := trodAll_cons r3
  obtain ⟨rfl, rfl, rfl⟩ := trodAll_nil r4
  obtain rfl : args = #[v0, v1, v2, v3, v4] := by cases args; simp_all
  obtain ⟨rfl, rfl⟩ := trodVars_none hV
  obtain ⟨a0, rfl, rfl, rfl, w0⟩ := open_int Yba.underlying5 (hval 0 5 v0 rfl rfl) h0
  obtain ⟨a1, rfl, rfl, rfl, w1⟩ := open_int Yba.underlying3 (hval 1 3 v1 rfl rfl) h1
  obtain ⟨a2, rfl, rfl, rfl, w2⟩ := open_int Yba.underlying3 (hval 2 3 v2 rfl rfl) h2
  obtain ⟨a3, rfl, rfl, rfl, w3⟩ := open_int Yba.underlying3 (hval 3 3 v3 rfl rfl) h3
  obtain ⟨a4, rfl, rfl, rfl⟩ := open_bool Yba.underlying4 (hval 4 4 v4 rfl rfl) h4
  clear hA0 hval0
  simp only [List.append_nil] at hW'
  refine (walk a0 a1 a2 a3 a4 w0 w1 w2 w3 W).mono fun e W' ⟨he, hg⟩ => ?_
  subst he
  exact ⟨_, rfl, post_of_same (pa := []) (pv := []) hW' (fun _ _ _ => (trodAll_cons_mk (shut_bool Yba.underlying4 _) trodAll_mk0)) (fun sp _ => (trodAll_cons_mk (shut_int Yba.underlying5 w0) (trodAll_cons_mk (shut_int Yba.underlying3 w1) (trodAll_cons_mk (shut_int Yba.underlying3 w2) (trodAll_cons_mk (shut_int Yba.underlying3 w3) (trodAll_cons_mk (shut_bool Yba.underlying4 _) trodAll_mk0)))))) (fun _ _ => rfl) rfl
    (hg.frame _) hg.2.1 (ok_one (by kernel_rfl) rfl (okWide_bool_mk Yba.underlying4 _))⟩

theorem over : Rows.lawS5806CWholeRow.holds Yba.pinned (OpenSpec.ofChange Rows.lawS5806CWholeSpec) :=
  OpenClaim.holds_of_wide 5 Yba.f5 rfl rfl rfl rfl rfl rfl rfl ⟨rfl, rfl, rfl, rfl, rfl⟩ rfl rfl rfl rfl rfl (by kernel_rfl) Yba.func5 (by kernel_rfl)
    (of_decide_eq_true (by kernel_rfl)) (by unfold Func.isWrapper; first | (rw [if_pos (by decide +kernel)]; kernel_rfl) | (rw [if_neg (by decide +kernel)]; exact ⟨rfl, rfl⟩))
    (fun os started H enc _ => lifted os started H enc)

/-- ████ THE STATEMENT ████ -/
theorem proved : Rows.LawS5806CWholeSaid :=
  over
#print axioms proved
end Go.Proofs.Ybulkdpfi.lawS5806CWhole
