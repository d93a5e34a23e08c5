/-
  package time, of times without a monotonic reading: nsec, sec, addSec, Add, Equal, After by their contracts.
-/
import Derived.Test.YbulkdpjqRows
import Derived.WalkKit
import Derived.ProofKit
import Derived.OpenShut
import Derived.WalkLawsBesides
import Derived.BigQuiet
import Derived.Laws.BitsAllLaws
import Derived.Laws.StructEq
import Derived.Test.YbulkdpjqHeap
namespace Go.Proofs.Ybulkdpjq
open Go.ChangeShapes Go.WideShapes Go.ChangeAt Go.RowKit
set_option linter.unusedVariables false

/-! ### bits of a wall clock's word: no monotonic reading -/
theorem nat_hi0 {n : Nat} (hn : n < 1073741824) : n &&& 9223372036854775808 = 0 := by
  apply Nat.eq_of_testBit_eq
  intro i
  rw [Nat.testBit_and, Nat.zero_testBit, show (9223372036854775808 : Nat) = 2 ^ 63 from rfl, Nat.testBit_two_pow]
  by_cases hi : 63 = i
  · subst hi; rw [Nat.testBit_lt_two_pow (by omega)]; simp
  · simp [hi]
theorem nat_low {n : Nat} (hn : n < 1073741824) : n &&& 1073741823 = n := by
  rw [show (1073741823 : Nat) = 2 ^ 30 - 1 from rfl, Nat.and_two_pow_sub_one_eq_mod]
  exact Nat.mod_eq_of_lt (by omega)
theorem nat_not {n : Nat} (hn : n < 1073741824) : n &&& (18446744073709551615 - 1073741823) = 0 := by
  apply Nat.eq_of_testBit_eq
  intro i
  rw [Nat.testBit_and, Nat.zero_testBit]
  by_cases hi : i < 30
  · have : (18446744073709551615 - 1073741823 : Nat).testBit i = false := by
      have e : (18446744073709551615 - 1073741823 : Nat) = 2 ^ 30 * 17179869183 := by decide
      rw [e, Nat.testBit_two_pow_mul]
      simp
      omega
    rw [this, Bool.and_false]
  · have hp : (2 : Nat) ^ 30 ≤ 2 ^ i := Nat.pow_le_pow_right (by omega) (by omega)
    rw [Nat.testBit_lt_two_pow (by omega), Bool.false_and]

theorem bits_mono (x : Int) (h0 : 0 ≤ x) (h1 : x < 1073741824) : (bits .and .u64 x 9223372036854775808 != 0) = false := by
  rw [u64_and x 9223372036854775808 h0 (by omega) (by omega) (by omega), show (9223372036854775808 : Int).toNat = 9223372036854775808 from rfl, nat_hi0 (by omega)]
  rfl
theorem bits_low (x : Int) (h0 : 0 ≤ x) (h1 : x < 1073741824) : bits .and .u64 x 1073741823 = x := by
  rw [u64_and x 1073741823 h0 (by omega) (by omega) (by omega), show (1073741823 : Int).toNat = 1073741823 from rfl, nat_low (by omega)]
  omega
theorem bits_not (x : Int) (h0 : 0 ≤ x) (h1 : x < 1073741824) : bits .andNot .u64 x 1073741823 = 0 := by
  rw [u64_andNot x 1073741823 h0 (by omega) (by omega) (by omega), show (1073741823 : Int).toNat = 1073741823 from rfl, nat_not (by omega)]
  rfl
theorem bits_or0 (x : Int) (h0 : 0 ≤ x) (h1 : x < 1073741824) : bits .or .u64 0 x = x := by
  rw [u64_or 0 x (by omega) (by omega) h0 (by omega)]
  simp
  omega
theorem bits_both (x y : Int) (h0 : 0 ≤ x) (h1 : x < 1073741824) (h2 : 0 ≤ y) (h3 : y < 1073741824) : (bits .and .u64 (bits .and .u64 x y) 9223372036854775808 != 0) = false := by
  have e := u64_and x y h0 (by omega) h2 (by omega)
  have hle : x.toNat &&& y.toNat ≤ x.toNat := Nat.and_le_left
  rw [e]
  exact bits_mono _ (by omega) (by omega)

/-- A time without a monotonic reading, its nanoseconds within a second, no place. -/
abbrev TM (x y : Int) : Value := .agg #[.int .u64 x, .int .i64 y, .pointer none]

theorem nsec_any (b : Nat) (x : Int) (w : World) (h0 : 0 ≤ x) (h1 : x < 1000000000) (hc : w.cell? ⟨b, 0, none⟩ = some (.int .u64 x)) :
    Calls Yba.prog 12 #[.pointer (some ⟨b, 0, none⟩)] w fun e w' => e = .returned (.int .i32 x) ∧ w' = w := by
  have e0 := bits_low x h0 (by omega)
  go_enter Yba.func12, Yba.ntmps12
  go_wp2
  go_ret
  exact ⟨rfl, rfl⟩

theorem sec_any (b : Nat) (x y : Int) (w : World) (h0 : 0 ≤ x) (h1 : x < 1000000000) (hc : w.cell? ⟨b, 0, none⟩ = some (.int .u64 x)) (hd : w.cell? ⟨b, 1, none⟩ = some (.int .i64 y)) :
    Calls Yba.prog 17 #[.pointer (some ⟨b, 0, none⟩)] w fun e w' => e = .returned (.int .i64 y) ∧ w' = w := by
  have e0 := bits_mono x h0 (by omega)
  go_enter Yba.func17, Yba.ntmps17
  go_wp2
  go_ret
  exact ⟨rfl, rfl⟩

theorem addSec_any (b : Nat) (x y d : Int) (w : World) (hx : (bits .and .u64 x 9223372036854775808 != 0) = false) (h1 : -9223372036854775808 ≤ y + d) (h2 : y + d ≤ 9223372036854775807)
    (hs : (decide (y < y + d) == decide (0 < d)) = true) (hc : w.cell? ⟨b, 0, none⟩ = some (.int .u64 x)) (he : w.cell? ⟨b, 1, none⟩ = some (.int .i64 y)) (hf : w.frozen? ⟨b, 1, none⟩ = false) :
    Calls Yba.prog 13 #[.pointer (some ⟨b, 0, none⟩), .int .i64 d] w fun e w' => e = .returned (.tuple #[]) ∧ w' = w.setCell ⟨b, 1, none⟩ (.int .i64 (y + d)) := by
  go_enter Yba.func13, Yba.ntmps13
  go_wp2_with fail
  go_end0
  exact ⟨rfl, rfl⟩

theorem sums (y d : Int) : (decide (y < y + d) == decide (0 < d)) = true := by
  by_cases h : 0 < d
  · have h2 : y < y + d := by omega
    rw [decide_eq_true h2, decide_eq_true h]; rfl
  · have h2 : ¬ y < y + d := by omega
    rw [decide_eq_false h2, decide_eq_false h]; rfl

theorem add_mid (x y d q r : Int) (w : World) (hq : d.tdiv 1000000000 = q) (hr : d.tmod 1000000000 = r) (x0 : 0 ≤ x) (x1 : x < 1000000000) (y0 : -4611686018427387904 ≤ y) (y1 : y ≤ 4611686018427387904)
    (d0 : -9223372036854775808 ≤ d) (d1 : d ≤ 9223372036854775807) (q0 : -9223372037 ≤ q) (q1 : q ≤ 9223372037) (r0 : -1000000000 < r) (r1 : r < 1000000000) (s0 : 0 ≤ x + r) (s1 : x + r < 1000000000) :
    Calls Yba.prog 6 #[TM x y, .int .i64 d] w fun e w' => e = .returned (TM (x + r) (y + q)) ∧ ∃ C1 C2, w' = (w.alloc (.cells C1 40)).alloc (.cells C2 40) := by
  have n0 := bits_not x x0 (by omega)
  have n1 := bits_or0 (x + r) (by omega) (by omega)
  have n2 := bits_mono (x + r) (by omega) (by omega)
  go_enter Yba.func6, Yba.ntmps6
  go_wp2_with fail
  refine (nsec_any _ x _ x0 x1 (by simp)).mono ?_
  rintro e w' ⟨rfl, rfl⟩
  go_wp2_with fail
  refine (addSec_any _ _ y _ _ n2 (by omega) (by omega) (sums _ _) (by simp) (by simp) (by simp)).mono ?_
  rintro e w' ⟨rfl, rfl⟩
  go_wp2
  exact bodyPost_ret (v := TM (x + r) (y + q)) (by simp [results, Yba.results6, go_sem]) rfl ⟨rfl, _, _, rfl⟩

theorem add_high (x y d q r : Int) (w : World) (hq : d.tdiv 1000000000 = q) (hr : d.tmod 1000000000 = r) (x0 : 0 ≤ x) (x1 : x < 1000000000) (y0 : -4611686018427387904 ≤ y) (y1 : y ≤ 4611686018427387904)
    (d0 : -9223372036854775808 ≤ d) (d1 : d ≤ 9223372036854775807) (q0 : -9223372037 ≤ q) (q1 : q ≤ 9223372037) (r0 : -1000000000 < r) (r1 : r < 1000000000) (s0 : 1000000000 ≤ x + r) :
    Calls Yba.prog 6 #[TM x y, .int .i64 d] w fun e w' => e = .returned (TM (x + r - 1000000000) (y + (q + 1))) ∧ ∃ C1 C2, w' = (w.alloc (.cells C1 40)).alloc (.cells C2 40) := by
  have n0 := bits_not x x0 (by omega)
  have n1 := bits_or0 (x + r - 1000000000) (by omega) (by omega)
  have n2 := bits_mono (x + r - 1000000000) (by omega) (by omega)
  go_enter Yba.func6, Yba.ntmps6
  go_wp2_with fail
  refine (nsec_any _ x _ x0 x1 (by simp)).mono ?_
  rintro e w' ⟨rfl, rfl⟩
  go_wp2_with fail
  refine (addSec_any _ _ y _ _ n2 (by omega) (by omega) (sums _ _) (by simp) (by simp) (by simp)).mono ?_
  rintro e w' ⟨rfl, rfl⟩
  go_wp2
  exact bodyPost_ret (v := TM (x + r - 1000000000) (y + (q + 1))) (by simp [results, Yba.results6, go_sem]) rfl ⟨rfl, _, _, rfl⟩

theorem add_low (x y d q r : Int) (w : World) (hq : d.tdiv 1000000000 = q) (hr : d.tmod 1000000000 = r) (x0 : 0 ≤ x) (x1 : x < 1000000000) (y0 : -4611686018427387904 ≤ y) (y1 : y ≤ 4611686018427387904)
    (d0 : -9223372036854775808 ≤ d) (d1 : d ≤ 9223372036854775807) (q0 : -9223372037 ≤ q) (q1 : q ≤ 9223372037) (r0 : -1000000000 < r) (r1 : r < 1000000000) (s0 : x + r < 0) :
    Calls Yba.prog 6 #[TM x y, .int .i64 d] w fun e w' => e = .returned (TM (x + r + 1000000000) (y + (q - 1))) ∧ ∃ C1 C2, w' = (w.alloc (.cells C1 40)).alloc (.cells C2 40) := by
  have n0 := bits_not x x0 (by omega)
  have n1 := bits_or0 (x + r + 1000000000) (by omega) (by omega)
  have n2 := bits_mono (x + r + 1000000000) (by omega) (by omega)
  go_enter Yba.func6, Yba.ntmps6
  go_wp2_with fail
  refine (nsec_any _ x _ x0 x1 (by simp)).mono ?_
  rintro e w' ⟨rfl, rfl⟩
  go_wp2_with fail
  refine (addSec_any _ _ y _ _ n2 (by omega) (by omega) (sums _ _) (by simp) (by simp) (by simp)).mono ?_
  rintro e w' ⟨rfl, rfl⟩
  go_wp2
  exact bodyPost_ret (v := TM (x + r + 1000000000) (y + (q - 1))) (by simp [results, Yba.results6, go_sem]) rfl ⟨rfl, _, _, rfl⟩

/-- The time that is n nanoseconds behind the zero time. -/
abbrev AT (n : Int) : Value := TM (n % 1000000000) (n / 1000000000)

/-- 'Add' of d to the time of n: the time of n + d. -/
theorem add_any (n d : Int) (w : World) (n0 : -9223372036854775808 ≤ n) (n1 : n ≤ 9223372036854775807) (d0 : -9223372036854775808 ≤ d) (d1 : d ≤ 9223372036854775807) :
    Calls Yba.prog 6 #[AT n, .int .i64 d] w fun e w' => e = .returned (AT (n + d)) ∧ ∃ C1 C2, w' = (w.alloc (.cells C1 40)).alloc (.cells C2 40) := by
  have e := Int.mul_tdiv_add_tmod d 1000000000
  have m1 := Int.lt_tmod_of_pos d (show (0 : Int) < 1000000000 by omega)
  have m2 := Int.tmod_lt_of_pos d (show (0 : Int) < 1000000000 by omega)
  by_cases h1 : n % 1000000000 + d.tmod 1000000000 < 0
  · have h := add_low (n % 1000000000) (n / 1000000000) d _ _ w rfl rfl (by omega) (by omega) (by omega) (by omega) d0 d1 (by omega) (by omega) m1 m2 h1
    rw [show AT (n + d) = TM (n % 1000000000 + d.tmod 1000000000 + 1000000000) (n / 1000000000 + (d.tdiv 1000000000 - 1)) from by
      unfold AT
      rw [show (n + d) % 1000000000 = n % 1000000000 + d.tmod 1000000000 + 1000000000 from by omega, show (n + d) / 1000000000 = n / 1000000000 + (d.tdiv 1000000000 - 1) from by omega]]
    exact h
  · by_cases h2 : 1000000000 ≤ n % 1000000000 + d.tmod 1000000000
    · have h := add_high (n % 1000000000) (n / 1000000000) d _ _ w rfl rfl (by omega) (by omega) (by omega) (by omega) d0 d1 (by omega) (by omega) m1 m2 h2
      rw [show AT (n + d) = TM (n % 1000000000 + d.tmod 1000000000 - 1000000000) (n / 1000000000 + (d.tdiv 1000000000 + 1)) from by
        unfold AT
        rw [show (n + d) % 1000000000 = n % 1000000000 + d.tmod 1000000000 - 1000000000 from by omega, show (n + d) / 1000000000 = n / 1000000000 + (d.tdiv 1000000000 + 1) from by omega]]
      exact h
    · have h := add_mid (n % 1000000000) (n / 1000000000) d _ _ w rfl rfl (by omega) (by omega) (by omega) (by omega) d0 d1 (by omega) (by omega) m1 m2 (by omega) (by omega)
      rw [show AT (n + d) = TM (n % 1000000000 + d.tmod 1000000000) (n / 1000000000 + d.tdiv 1000000000) from by
        unfold AT
        rw [show (n + d) % 1000000000 = n % 1000000000 + d.tmod 1000000000 from by omega, show (n + d) / 1000000000 = n / 1000000000 + d.tdiv 1000000000 from by omega]]
      exact h

/-- 'Equal' of a time to itself. -/
theorem equal_self (n : Int) (w : World) : Calls Yba.prog 10 #[AT n, AT n] w fun e w' => e = .returned (.bool true) ∧ ∃ C1 C2, w' = (w.alloc (.cells C1 40)).alloc (.cells C2 40) := by
  obtain ⟨x, hx⟩ : ∃ x, x = n % 1000000000 := ⟨_, rfl⟩
  obtain ⟨y, hy⟩ : ∃ y, y = n / 1000000000 := ⟨_, rfl⟩
  have x0 : 0 ≤ x := by omega
  have x1 : x < 1000000000 := by omega
  unfold AT
  rw [← hx, ← hy]
  clear hx hy
  have e0 := bits_both x x x0 (by omega) x0 (by omega)
  go_enter Yba.func10, Yba.ntmps10
  go_wp2_with fail
  refine (sec_any _ x y _ x0 x1 (by simp) (by simp)).mono ?_
  rintro e w' ⟨rfl, rfl⟩
  go_wp2_with fail
  refine (sec_any _ x y _ x0 x1 (by simp) (by simp)).mono ?_
  rintro e w' ⟨rfl, rfl⟩
  go_wp2_with fail
  refine (nsec_any _ x _ x0 x1 (by simp)).mono ?_
  rintro e w' ⟨rfl, rfl⟩
  go_wp2_with fail
  refine (nsec_any _ x _ x0 x1 (by simp)).mono ?_
  rintro e w' ⟨rfl, rfl⟩
  go_wp2_with fail
  go_ret
  exact ⟨rfl, _, _, rfl⟩

/-- 'After': of the times of n and m: n > m. -/
theorem after_any (n m : Int) (w : World) : Calls Yba.prog 16 #[AT n, AT m] w fun e w' => e = .returned (.bool (decide (m < n))) ∧ ∃ C1 C2, w' = (w.alloc (.cells C1 40)).alloc (.cells C2 40) := by
  obtain ⟨x, hx⟩ : ∃ x, x = n % 1000000000 := ⟨_, rfl⟩
  obtain ⟨y, hy⟩ : ∃ y, y = n / 1000000000 := ⟨_, rfl⟩
  obtain ⟨u, hu⟩ : ∃ u, u = m % 1000000000 := ⟨_, rfl⟩
  obtain ⟨v, hv⟩ : ∃ v, v = m / 1000000000 := ⟨_, rfl⟩
  have x0 : 0 ≤ x := by omega
  have x1 : x < 1000000000 := by omega
  have u0 : 0 ≤ u := by omega
  have u1 : u < 1000000000 := by omega
  have H : Hid (m < n ↔ v < y ∨ (y = v ∧ u < x)) := by unfold Hid; omega
  unfold AT
  rw [← hx, ← hy, ← hu, ← hv]
  clear hx hy hu hv
  have e0 := bits_both x u x0 (by omega) u0 (by omega)
  by_cases c1 : v < y
  · have hfin : decide (m < n) = true := by simp [H.out, c1]
    rw [hfin]
    go_enter Yba.func16, Yba.ntmps16
    go_wp2_with fail
    refine (sec_any _ x y _ x0 x1 (by simp) (by simp)).mono ?_
    rintro e w' ⟨rfl, rfl⟩
    go_wp2_with fail
    refine (sec_any _ u v _ u0 u1 (by simp) (by simp)).mono ?_
    rintro e w' ⟨rfl, rfl⟩
    go_wp2_with fail
    go_ret
    exact ⟨rfl, _, _, rfl⟩
  · by_cases c2 : y = v
    · subst c2
      have hfin : decide (m < n) = decide (u < x) := by simp [H.out]
      rw [hfin]
      go_enter Yba.func16, Yba.ntmps16
      go_wp2_with fail
      refine (sec_any _ x y _ x0 x1 (by simp) (by simp)).mono ?_
      rintro e w' ⟨rfl, rfl⟩
      go_wp2_with fail
      refine (sec_any _ u y _ u0 u1 (by simp) (by simp)).mono ?_
      rintro e w' ⟨rfl, rfl⟩
      go_wp2_with fail
      refine (nsec_any _ x _ x0 x1 (by simp)).mono ?_
      rintro e w' ⟨rfl, rfl⟩
      go_wp2_with fail
      refine (nsec_any _ u _ u0 u1 (by simp)).mono ?_
      rintro e w' ⟨rfl, rfl⟩
      go_wp2_with fail
      go_ret
      exact ⟨rfl, _, _, rfl⟩
    · have c3 : (y == v) = false := by simp [c2]
      have c4 : decide (v < y) = false := decide_eq_false c1
      have hfin : decide (m < n) = false := by simp [H.out, c1, c2]
      rw [hfin]
      go_enter Yba.func16, Yba.ntmps16
      go_wp2_with fail
      refine (sec_any _ x y _ x0 x1 (by simp) (by simp)).mono ?_
      rintro e w' ⟨rfl, rfl⟩
      go_wp2_with fail
      refine (sec_any _ u v _ u0 u1 (by simp) (by simp)).mono ?_
      rintro e w' ⟨rfl, rfl⟩
      go_wp2_with fail
      go_ret
      exact ⟨rfl, _, _, rfl⟩

end Go.Proofs.Ybulkdpjq
