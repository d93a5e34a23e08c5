/-
  package time: Time{}.Add(d) and IsZero, and listen.New, by their contracts.
-/
import Derived.Test.YbulkdphmRows
import Derived.WalkKit
import Derived.ProofKit
import Derived.OpenShut
import Derived.WalkLawsBesides
import Derived.BigQuiet
namespace Go.Proofs.Ybulkdphm
open Go.ChangeShapes Go.WideShapes Go.ChangeAt Go.RowKit
open Go.ChangeMaps (setBlock)
set_option linter.unusedVariables false

theorem u64_low (n : Nat) (hn : n < 1073741824) : (BitVec.ofInt 64 (n : Int)).toNat = n := by
  rw [BitVec.ofInt_natCast, BitVec.toNat_ofNat]; exact Nat.mod_eq_of_lt (by omega)

theorem bits_mono (x : Int) (h0 : 0 ≤ x) (h1 : x < 1073741824) : (bits .and .u64 x 9223372036854775808 != 0) = false := by
  obtain ⟨n, rfl⟩ := Int.eq_ofNat_of_zero_le h0
  have hn : n < 1073741824 := by omega
  have e : n &&& 9223372036854775808 = 0 := by
    apply Nat.eq_of_testBit_eq
    intro i
    rw [Nat.testBit_and, Nat.zero_testBit, show (9223372036854775808 : Nat) = 2 ^ 63 from rfl, Nat.testBit_two_pow]
    by_cases hi : 63 = i
    · subst hi; rw [Nat.testBit_lt_two_pow (by omega)]; simp
    · simp [hi]
  have : bits .and .u64 (n : Int) 9223372036854775808 = 0 := by
    show IntKind.u64.wrap ((BitVec.ofInt 64 (n : Int) &&& BitVec.ofInt 64 9223372036854775808).toNat : Int) = 0
    rw [BitVec.toNat_and, u64_low n hn, show (BitVec.ofInt 64 9223372036854775808).toNat = 9223372036854775808 from by decide, e, IntKind.wrap_u64]
    rfl
  rw [this]; rfl

theorem bits_andNot0 : bits .andNot .u64 0 1073741823 = 0 := by decide
theorem bits_or0 (x : Int) (h0 : 0 ≤ x) (h1 : x < 1073741824) : bits .or .u64 0 x = x := by
  obtain ⟨n, rfl⟩ := Int.eq_ofNat_of_zero_le h0
  have hn : n < 1073741824 := by omega
  show IntKind.u64.wrap ((BitVec.ofInt 64 0 ||| BitVec.ofInt 64 (n : Int)).toNat : Int) = n
  rw [BitVec.toNat_or, u64_low n hn, show (BitVec.ofInt 64 0).toNat = 0 from by decide, Nat.zero_or, IntKind.wrap_u64]
  omega

theorem addSec_any (b : Nat) (x d : Int) (w : World) (hx : (bits .and .u64 x 9223372036854775808 != 0) = false) (h1 : -9223372036854775808 ≤ d) (h2 : d ≤ 9223372036854775807) (hc : w.cell? ⟨b, 0, none⟩ = some (.int .u64 x)) (he : w.cell? ⟨b, 1, none⟩ = some (.int .i64 0)) (hf : w.frozen? ⟨b, 1, none⟩ = false) :
    Calls Yba.prog 19 #[.pointer (some ⟨b, 0, none⟩), .int .i64 d] w fun e w' => e = .returned (.tuple #[]) ∧ w' = w.setCell ⟨b, 1, none⟩ (.int .i64 d) := by
  go_enter Yba.func19, Yba.ntmps19
  go_wp2_with fail
  go_end0
  exact ⟨rfl, rfl⟩

theorem nsec_zero (a : Addr) (w : World) (hc : w.cell? a = some (.int .u64 0)) :
    Calls Yba.prog 18 #[.pointer (some a)] w fun e w' => e = .returned (.int .i32 0) ∧ w' = w := by
  have e0 : bits .and .u64 0 1073741823 = 0 := by decide
  go_enter Yba.func18, Yba.ntmps18
  go_wp2
  go_ret
  exact ⟨rfl, rfl⟩

theorem add_nn (d : Int) (w : World) (h0 : 0 ≤ d) (h1 : d ≤ 9223372036854775807) :
    Calls Yba.prog 10 #[.agg #[.int .u64 0, .int .i64 0, .pointer none], .int .i64 d] w fun e w' => e = .returned (.agg #[.int .u64 (d % 1000000000), .int .i64 (d / 1000000000), .pointer none]) ∧ ∃ C1 C2, w' = (w.alloc (.cells C1 59)).alloc (.cells C2 59) := by
  have n0 := bits_andNot0
  have n1 := bits_or0 (d % 1000000000) (by omega) (by omega)
  have n2 := bits_mono (d % 1000000000) (by omega) (by omega)
  have b1 : 0 ≤ d % 1000000000 := by omega
  have b2 : d % 1000000000 < 1000000000 := by omega
  go_enter Yba.func10, Yba.ntmps10
  go_wp2_with fail
  refine (nsec_zero _ _ (by simp)).mono ?_
  rintro e w' ⟨rfl, rfl⟩
  go_wp2_with fail
  refine (addSec_any _ _ _ _ n2 (by omega) (by omega) (by simp) (by simp) (by simp)).mono ?_
  rintro e w' ⟨rfl, rfl⟩
  go_wp2
  exact bodyPost_ret (v := .agg #[.int .u64 (d % 1000000000), .int .i64 (d / 1000000000), .pointer none]) (by simp [results, Yba.results10, go_sem]) rfl ⟨rfl, _, _, rfl⟩

theorem add_neg (d q r : Int) (w : World) (hq : d.tdiv 1000000000 = q) (hr : d.tmod 1000000000 = r) (hd : Hid (d = q * 1000000000 + r)) (h0 : d < 0) (h1 : -9223372036854775808 ≤ d)
    (q0 : q ≤ 0) (q1 : -9223372037 ≤ q) (r0 : r < 0) (r1 : -1000000000 < r) :
    Calls Yba.prog 10 #[.agg #[.int .u64 0, .int .i64 0, .pointer none], .int .i64 d] w fun e w' => e = .returned (.agg #[.int .u64 (d % 1000000000), .int .i64 (d / 1000000000), .pointer none]) ∧ ∃ C1 C2, w' = (w.alloc (.cells C1 59)).alloc (.cells C2 59) := by
  have n0 := bits_andNot0
  have n1 := bits_or0 (r + 1000000000) (by omega) (by omega)
  have n2 := bits_mono (r + 1000000000) (by omega) (by omega)
  go_enter Yba.func10, Yba.ntmps10
  go_wp2_with fail
  refine (nsec_zero _ _ (by simp)).mono ?_
  rintro e w' ⟨rfl, rfl⟩
  go_wp2_with fail
  refine (addSec_any _ _ _ _ n2 (by omega) (by omega) (by simp) (by simp) (by simp)).mono ?_
  rintro e w' ⟨rfl, rfl⟩
  go_wp2
  have e1 : d % 1000000000 = r + 1000000000 := by have := hd.out; omega
  have e2 : d / 1000000000 = q - 1 := by have := hd.out; omega
  rw [e1, e2]
  exact bodyPost_ret (v := .agg #[.int .u64 (r + 1000000000), .int .i64 (q - 1), .pointer none]) (by simp [results, Yba.results10, go_sem]) rfl ⟨rfl, _, _, rfl⟩

theorem add_neg0 (d q r : Int) (w : World) (hq : d.tdiv 1000000000 = q) (hr : d.tmod 1000000000 = 0) (hd : Hid (d = q * 1000000000)) (h0 : d < 0) (h1 : -9223372036854775808 ≤ d)
    (q0 : q ≤ 0) (q1 : -9223372037 ≤ q) :
    Calls Yba.prog 10 #[.agg #[.int .u64 0, .int .i64 0, .pointer none], .int .i64 d] w fun e w' => e = .returned (.agg #[.int .u64 (d % 1000000000), .int .i64 (d / 1000000000), .pointer none]) ∧ ∃ C1 C2, w' = (w.alloc (.cells C1 59)).alloc (.cells C2 59) := by
  have n0 := bits_andNot0
  have n1 := bits_or0 0 (by omega) (by omega)
  have n2 := bits_mono 0 (by omega) (by omega)
  go_enter Yba.func10, Yba.ntmps10
  go_wp2_with fail
  refine (nsec_zero _ _ (by simp)).mono ?_
  rintro e w' ⟨rfl, rfl⟩
  go_wp2_with fail
  refine (addSec_any _ _ _ _ n2 (by omega) (by omega) (by simp) (by simp) (by simp)).mono ?_
  rintro e w' ⟨rfl, rfl⟩
  go_wp2
  have e1 : d % 1000000000 = 0 := by have := hd.out; omega
  have e2 : d / 1000000000 = q := by have := hd.out; omega
  rw [e1, e2]
  exact bodyPost_ret (v := .agg #[.int .u64 0, .int .i64 q, .pointer none]) (by simp [results, Yba.results10, go_sem]) rfl ⟨rfl, _, _, rfl⟩

theorem add_any (d : Int) (w : World) (h0 : -9223372036854775808 ≤ d) (h1 : d ≤ 9223372036854775807) :
    Calls Yba.prog 10 #[.agg #[.int .u64 0, .int .i64 0, .pointer none], .int .i64 d] w fun e w' => e = .returned (.agg #[.int .u64 (d % 1000000000), .int .i64 (d / 1000000000), .pointer none]) ∧ ∃ C1 C2, w' = (w.alloc (.cells C1 59)).alloc (.cells C2 59) := by
  by_cases hd : 0 ≤ d
  · exact add_nn d w hd h1
  · have e := Int.mul_tdiv_add_tmod d 1000000000
    have m1 := Int.lt_tmod_of_pos d (show (0 : Int) < 1000000000 by omega)
    have m2 : d.tmod 1000000000 ≤ 0 := by
      have := Int.tmod_nonneg 1000000000 (show 0 ≤ -d by omega)
      rw [Int.neg_tmod] at this; omega
    by_cases hr : d.tmod 1000000000 = 0
    · exact add_neg0 d _ 0 w rfl hr (by unfold Hid; omega) (by omega) h0 (by omega) (by omega)
    · exact add_neg d _ _ w rfl rfl (by unfold Hid; omega) (by omega) h0 (by omega) (by omega) (by omega) (by omega)

theorem isZero_any (x y : Int) (w : World) :
    Calls Yba.prog 22 #[.agg #[.int .u64 x, .int .i64 y, .pointer none]] w fun e w' => e = .returned (.bool (x == 0 && y == 0)) ∧ ∃ C1, w' = w.alloc (.cells C1 59) := by
  by_cases hx : x = 0
  · subst hx
    go_enter Yba.func22, Yba.ntmps22
    go_wp2
    go_ret
    exact ⟨by simp, _, rfl⟩
  · have hb : (x == 0) = false := by simp [hx]
    go_enter Yba.func22, Yba.ntmps22
    go_wp2
    go_ret
    exact ⟨by simp [hx], _, rfl⟩

theorem new_any (n : Int) (w : World) :
    Calls Yba.prog 9 #[.int .i64 n, .pointer none] w fun e w' => e = .returned (.pointer (some ⟨w.heap.size + 2, 0, none⟩)) ∧
      w' = ((w.alloc (.chan 1024 #[] false 0 0 false)).alloc (.map #[] 0)).alloc (.cells #[.int .i64 n, .pointer none, .chan (some w.heap.size), .int .u64 0, .int .u32 0, .int .i32 0, .int .u32 0, .map (some (w.heap.size + 1)), .int .u64 0, .int .i64 0, .pointer none] 61) := by
  have hmm := @run_makeMap Yba.prog
  have hmc : ∀ w : World, (Instr.makeChan 41 (.int .i64 1024)).run Yba.prog w = .ok (.chan (some w.heap.size)) (w.alloc (.chan 1024 #[] false 0 0 false)) := fun _ => by kernel_rfl
  go_enter Yba.func9, Yba.ntmps9
  go_wp2
  go_ret
  exact ⟨rfl, rfl⟩

end Go.Proofs.Ybulkdphm
