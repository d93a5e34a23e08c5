/-
  netip.appendHex, Is6, Is4In6.
-/
import Derived.Test.YbulkdphmDoorRows
import Derived.WalkKit
import Derived.ProofKit
import Derived.OpenShut
import Derived.WalkLawsBesides
import Derived.BigQuiet
import Derived.Laws.BitsAllLaws
import Derived.Laws.StructEq
import Derived.Outline
import Derived.Test.YbulkdphmDoorIp7
import Derived.Deep.RegionWith
import Derived.Deep.RegionHeld3
import Derived.Deep.DeepCutAuto
import Derived.Deep.DrawnRows
import Derived.Handy
import Derived.Laws.ResultCell
namespace Go.Proofs.YbulkdphmDoor
open Go.ChangeShapes Go.WideShapes Go.ChangeAt Go.RowKit
open Go.ChangeMaps (setBlock)
set_option linter.unusedVariables false
set_option linter.unusedSimpArgs false


open Go.Lib (byteCells decDigits)
theorem and15 (X : Nat) (h : X < 65536) : bits .and .u16 (X : Int) 15 = ((X % 16 : Nat) : Int) := by
  rw [show (15 : Int) = ((15 : Nat) : Int) from rfl, u16_and_nat X 15 h (by omega), nat_mask4]

set_option maxRecDepth 100000 in
set_option maxHeartbeats 800000 in
theorem appHex1 (B : Nat) (v : Value) (l : List UInt8) (x : Nat) (w : World) (hown : w.ownsRow B 5 1 v l.length (byteCells l)) (hB : B ≤ w.heap.size) (hlim : l.length ≤ 1000) (hx : x < 16) :
    Calls Ybad.prog 50 #[v, .int .u16 x] w fun e w' => ∃ v', e = .returned v' ∧ ∃ l' : List UInt8, l'.length ≤ l.length + 4 ∧ 0 < l'.length ∧ Ow B v' l' w w' := by
  have h1 : ¬ (4096 : Int) ≤ (x : Int) := by omega
  have h2 : ¬ (256 : Int) ≤ (x : Int) := by omega
  have h3 : ¬ (16 : Int) ≤ (x : Int) := by omega
  obtain ⟨a, ha⟩ : ∃ a, a = x / 4096 := ⟨_, rfl⟩
  obtain ⟨b0, hb0⟩ : ∃ b, b = x / 256 := ⟨_, rfl⟩
  obtain ⟨c0, hc0⟩ : ∃ c, c = x / 16 := ⟨_, rfl⟩
  have kb1 := and15 b0 (by omega)
  have kc1 := and15 c0 (by omega)
  have kd1 := and15 x (by omega)
  obtain ⟨b, hb⟩ : ∃ b, b = b0 % 16 := ⟨_, rfl⟩
  obtain ⟨c, hc⟩ : ∃ c, c = c0 % 16 := ⟨_, rfl⟩
  obtain ⟨d, hd⟩ : ∃ d, d = x % 16 := ⟨_, rfl⟩
  rw [← hb] at kb1
  rw [← hc] at kc1
  rw [← hd] at kd1
  have ka := idx_dig a (by omega) .u16
  have kb := idx_dig b (by omega) .u16
  have kc := idx_dig c (by omega) .u16
  have kd := idx_dig d (by omega) .u16
  have qa : (x : Int) / 4096 = (a : Int) := by omega
  have qb : (x : Int) / 256 = (b0 : Int) := by omega
  have qc : (x : Int) / 16 = (c0 : Int) := by omega
  have H0 := hide hown
  clear hown ha hb0 hc0 hb hc hd
  go_enter Ybad.func50, Ybad.ntmps50
  go_upto_region 7 with fail
  go_wp2_with (at_builtin; refine wpList_byte rfl _ _ rfl B v (l) (dig d) rfl rfl H0.out hB (by (try simp only [List.length_append, List.length_cons, List.length_nil]); omega) ?_; intro v7 w7 ho hbl hk; have H7 := hide (And.intro ho (And.intro (hbl) (hk))); clear ho hbl hk)
  go_ret
  refine ⟨v7, rfl, _, ?_, ?_, H7.out⟩
  · simp only [List.length_append, List.length_cons, List.length_nil]; omega
  · simp only [List.length_append, List.length_cons, List.length_nil]; omega

set_option maxRecDepth 100000 in
set_option maxHeartbeats 800000 in
theorem appHex2 (B : Nat) (v : Value) (l : List UInt8) (x : Nat) (w : World) (hown : w.ownsRow B 5 1 v l.length (byteCells l)) (hB : B ≤ w.heap.size) (hlim : l.length ≤ 1000) (h16 : 16 ≤ x) (hx : x < 256) :
    Calls Ybad.prog 50 #[v, .int .u16 x] w fun e w' => ∃ v', e = .returned v' ∧ ∃ l' : List UInt8, l'.length ≤ l.length + 4 ∧ 0 < l'.length ∧ Ow B v' l' w w' := by
  have h1 : ¬ (4096 : Int) ≤ (x : Int) := by omega
  have h2 : ¬ (256 : Int) ≤ (x : Int) := by omega
  have h3 : (16 : Int) ≤ (x : Int) := by omega
  obtain ⟨a, ha⟩ : ∃ a, a = x / 4096 := ⟨_, rfl⟩
  obtain ⟨b0, hb0⟩ : ∃ b, b = x / 256 := ⟨_, rfl⟩
  obtain ⟨c0, hc0⟩ : ∃ c, c = x / 16 := ⟨_, rfl⟩
  have kb1 := and15 b0 (by omega)
  have kc1 := and15 c0 (by omega)
  have kd1 := and15 x (by omega)
  obtain ⟨b, hb⟩ : ∃ b, b = b0 % 16 := ⟨_, rfl⟩
  obtain ⟨c, hc⟩ : ∃ c, c = c0 % 16 := ⟨_, rfl⟩
  obtain ⟨d, hd⟩ : ∃ d, d = x % 16 := ⟨_, rfl⟩
  rw [← hb] at kb1
  rw [← hc] at kc1
  rw [← hd] at kd1
  have ka := idx_dig a (by omega) .u16
  have kb := idx_dig b (by omega) .u16
  have kc := idx_dig c (by omega) .u16
  have kd := idx_dig d (by omega) .u16
  have qa : (x : Int) / 4096 = (a : Int) := by omega
  have qb : (x : Int) / 256 = (b0 : Int) := by omega
  have qc : (x : Int) / 16 = (c0 : Int) := by omega
  have H0 := hide hown
  clear hown ha hb0 hc0 hb hc hd
  go_enter Ybad.func50, Ybad.ntmps50
  go_upto_region 7 with (at_builtin; refine wpList_byte rfl _ _ rfl B v (l) (dig c) rfl rfl H0.out hB (by (try simp only [List.length_append, List.length_cons, List.length_nil]); omega) ?_; intro v6 w6 ho hbl hk; have H6 := hide (And.intro ho (And.intro (hbl) (hk))); clear ho hbl hk)
  go_wp2_with (at_builtin; refine wpList_byte rfl _ _ rfl B v6 (l ++ [dig c]) (dig d) rfl rfl H6.out.1 (Nat.le_trans hB H6.out.2.1.size) (by (try simp only [List.length_append, List.length_cons, List.length_nil]); omega) ?_; intro v7 w7 ho hbl hk; have H7 := hide (And.intro ho (And.intro (Below.trans H6.out.2.1 hbl) (Lib.OthersKept.trans H6.out.2.2 hk))); clear ho hbl hk)
  go_ret
  refine ⟨v7, rfl, _, ?_, ?_, H7.out⟩
  · simp only [List.length_append, List.length_cons, List.length_nil]; omega
  · simp only [List.length_append, List.length_cons, List.length_nil]; omega

set_option maxRecDepth 100000 in
set_option maxHeartbeats 800000 in
theorem appHex3 (B : Nat) (v : Value) (l : List UInt8) (x : Nat) (w : World) (hown : w.ownsRow B 5 1 v l.length (byteCells l)) (hB : B ≤ w.heap.size) (hlim : l.length ≤ 1000) (h256 : 256 ≤ x) (hx : x < 4096) :
    Calls Ybad.prog 50 #[v, .int .u16 x] w fun e w' => ∃ v', e = .returned v' ∧ ∃ l' : List UInt8, l'.length ≤ l.length + 4 ∧ 0 < l'.length ∧ Ow B v' l' w w' := by
  have h1 : ¬ (4096 : Int) ≤ (x : Int) := by omega
  have h2 : (256 : Int) ≤ (x : Int) := by omega
  have h3 : (16 : Int) ≤ (x : Int) := by omega
  obtain ⟨a, ha⟩ : ∃ a, a = x / 4096 := ⟨_, rfl⟩
  obtain ⟨b0, hb0⟩ : ∃ b, b = x / 256 := ⟨_, rfl⟩
  obtain ⟨c0, hc0⟩ : ∃ c, c = x / 16 := ⟨_, rfl⟩
  have kb1 := and15 b0 (by omega)
  have kc1 := and15 c0 (by omega)
  have kd1 := and15 x (by omega)
  obtain ⟨b, hb⟩ : ∃ b, b = b0 % 16 := ⟨_, rfl⟩
  obtain ⟨c, hc⟩ : ∃ c, c = c0 % 16 := ⟨_, rfl⟩
  obtain ⟨d, hd⟩ : ∃ d, d = x % 16 := ⟨_, rfl⟩
  rw [← hb] at kb1
  rw [← hc] at kc1
  rw [← hd] at kd1
  have ka := idx_dig a (by omega) .u16
  have kb := idx_dig b (by omega) .u16
  have kc := idx_dig c (by omega) .u16
  have kd := idx_dig d (by omega) .u16
  have qa : (x : Int) / 4096 = (a : Int) := by omega
  have qb : (x : Int) / 256 = (b0 : Int) := by omega
  have qc : (x : Int) / 16 = (c0 : Int) := by omega
  have H0 := hide hown
  clear hown ha hb0 hc0 hb hc hd
  go_enter Ybad.func50, Ybad.ntmps50
  go_upto_region 5 with (at_builtin; refine wpList_byte rfl _ _ rfl B v (l) (dig b) rfl rfl H0.out hB (by (try simp only [List.length_append, List.length_cons, List.length_nil]); omega) ?_; intro v4 w4 ho hbl hk; have H4 := hide (And.intro ho (And.intro (hbl) (hk))); clear ho hbl hk)
  go_upto_region 7 with (at_builtin; refine wpList_byte rfl _ _ rfl B v4 (l ++ [dig b]) (dig c) rfl rfl H4.out.1 (Nat.le_trans hB H4.out.2.1.size) (by (try simp only [List.length_append, List.length_cons, List.length_nil]); omega) ?_; intro v6 w6 ho hbl hk; have H6 := hide (And.intro ho (And.intro (Below.trans H4.out.2.1 hbl) (Lib.OthersKept.trans H4.out.2.2 hk))); clear ho hbl hk)
  go_wp2_with (at_builtin; refine wpList_byte rfl _ _ rfl B v6 (l ++ [dig b] ++ [dig c]) (dig d) rfl rfl H6.out.1 (Nat.le_trans hB H6.out.2.1.size) (by (try simp only [List.length_append, List.length_cons, List.length_nil]); omega) ?_; intro v7 w7 ho hbl hk; have H7 := hide (And.intro ho (And.intro (Below.trans H6.out.2.1 hbl) (Lib.OthersKept.trans H6.out.2.2 hk))); clear ho hbl hk)
  go_ret
  refine ⟨v7, rfl, _, ?_, ?_, H7.out⟩
  · simp only [List.length_append, List.length_cons, List.length_nil]; omega
  · simp only [List.length_append, List.length_cons, List.length_nil]; omega

set_option maxRecDepth 100000 in
set_option maxHeartbeats 800000 in
theorem appHex4 (B : Nat) (v : Value) (l : List UInt8) (x : Nat) (w : World) (hown : w.ownsRow B 5 1 v l.length (byteCells l)) (hB : B ≤ w.heap.size) (hlim : l.length ≤ 1000) (h4096 : 4096 ≤ x) (hx : x < 65536) :
    Calls Ybad.prog 50 #[v, .int .u16 x] w fun e w' => ∃ v', e = .returned v' ∧ ∃ l' : List UInt8, l'.length ≤ l.length + 4 ∧ 0 < l'.length ∧ Ow B v' l' w w' := by
  have h1 : (4096 : Int) ≤ (x : Int) := by omega
  have h2 : (256 : Int) ≤ (x : Int) := by omega
  have h3 : (16 : Int) ≤ (x : Int) := by omega
  obtain ⟨a, ha⟩ : ∃ a, a = x / 4096 := ⟨_, rfl⟩
  obtain ⟨b0, hb0⟩ : ∃ b, b = x / 256 := ⟨_, rfl⟩
  obtain ⟨c0, hc0⟩ : ∃ c, c = x / 16 := ⟨_, rfl⟩
  have kb1 := and15 b0 (by omega)
  have kc1 := and15 c0 (by omega)
  have kd1 := and15 x (by omega)
  obtain ⟨b, hb⟩ : ∃ b, b = b0 % 16 := ⟨_, rfl⟩
  obtain ⟨c, hc⟩ : ∃ c, c = c0 % 16 := ⟨_, rfl⟩
  obtain ⟨d, hd⟩ : ∃ d, d = x % 16 := ⟨_, rfl⟩
  rw [← hb] at kb1
  rw [← hc] at kc1
  rw [← hd] at kd1
  have ka := idx_dig a (by omega) .u16
  have kb := idx_dig b (by omega) .u16
  have kc := idx_dig c (by omega) .u16
  have kd := idx_dig d (by omega) .u16
  have qa : (x : Int) / 4096 = (a : Int) := by omega
  have qb : (x : Int) / 256 = (b0 : Int) := by omega
  have qc : (x : Int) / 16 = (c0 : Int) := by omega
  have H0 := hide hown
  clear hown ha hb0 hc0 hb hc hd
  go_enter Ybad.func50, Ybad.ntmps50
  go_upto_region 3 with (at_builtin; refine wpList_byte rfl _ _ rfl B v (l) (dig a) rfl rfl H0.out hB (by (try simp only [List.length_append, List.length_cons, List.length_nil]); omega) ?_; intro v2 w2 ho hbl hk; have H2 := hide (And.intro ho (And.intro (hbl) (hk))); clear ho hbl hk)
  go_upto_region 5 with (at_builtin; refine wpList_byte rfl _ _ rfl B v2 (l ++ [dig a]) (dig b) rfl rfl H2.out.1 (Nat.le_trans hB H2.out.2.1.size) (by (try simp only [List.length_append, List.length_cons, List.length_nil]); omega) ?_; intro v4 w4 ho hbl hk; have H4 := hide (And.intro ho (And.intro (Below.trans H2.out.2.1 hbl) (Lib.OthersKept.trans H2.out.2.2 hk))); clear ho hbl hk)
  go_upto_region 7 with (at_builtin; refine wpList_byte rfl _ _ rfl B v4 (l ++ [dig a] ++ [dig b]) (dig c) rfl rfl H4.out.1 (Nat.le_trans hB H4.out.2.1.size) (by (try simp only [List.length_append, List.length_cons, List.length_nil]); omega) ?_; intro v6 w6 ho hbl hk; have H6 := hide (And.intro ho (And.intro (Below.trans H4.out.2.1 hbl) (Lib.OthersKept.trans H4.out.2.2 hk))); clear ho hbl hk)
  go_wp2_with (at_builtin; refine wpList_byte rfl _ _ rfl B v6 (l ++ [dig a] ++ [dig b] ++ [dig c]) (dig d) rfl rfl H6.out.1 (Nat.le_trans hB H6.out.2.1.size) (by (try simp only [List.length_append, List.length_cons, List.length_nil]); omega) ?_; intro v7 w7 ho hbl hk; have H7 := hide (And.intro ho (And.intro (Below.trans H6.out.2.1 hbl) (Lib.OthersKept.trans H6.out.2.2 hk))); clear ho hbl hk)
  go_ret
  refine ⟨v7, rfl, _, ?_, ?_, H7.out⟩
  · simp only [List.length_append, List.length_cons, List.length_nil]; omega
  · simp only [List.length_append, List.length_cons, List.length_nil]; omega

/-- netip.appendHex: some digits. -/
theorem appHex (B : Nat) (v : Value) (l : List UInt8) (x : Nat) (w : World) (hown : w.ownsRow B 5 1 v l.length (byteCells l)) (hB : B ≤ w.heap.size) (hlim : l.length ≤ 1000) (hx : x < 65536) :
    Calls Ybad.prog 50 #[v, .int .u16 x] w fun e w' => ∃ v', e = .returned v' ∧ ∃ l' : List UInt8, l'.length ≤ l.length + 4 ∧ 0 < l'.length ∧ Ow B v' l' w w' := by
  by_cases h1 : x < 16
  · exact appHex1 B v l x w hown hB hlim h1
  · by_cases h2 : x < 256
    · exact appHex2 B v l x w hown hB hlim (by omega) h2
    · by_cases h3 : x < 4096
      · exact appHex3 B v l x w hown hB hlim (by omega) h3
      · exact appHex4 B v l x w hown hB hlim (by omega) hx

set_option maxRecDepth 100000 in
theorem is6_z6 (hi lo : Nat) (w : World) (a4 a6 : Addr) (Z : Zs w a4 a6) : Calls Ybad.prog 46 #[adr hi lo (some a6)] w fun e w' => e = .returned (.bool true) ∧ Below w.heap.size w w' := by
  have hb : Below w.heap.size w (w.alloc (.cells #[.int .u64 (hi : Int), .int .u64 (lo : Int), .pointer (some a6)] 59)) := (Below.refl _ _).alloc (Nat.le_refl _) _
  have Z' := Z.on hb
  have z4 := Z'.z4
  have z0 := Z'.z0
  have k1 : (Op.equalIn 9999 55 (.pointer (some a6)) (.pointer none)).run Ybad.prog (w.alloc (.cells #[.int .u64 (hi : Int), .int .u64 (lo : Int), .pointer (some a6)] 59)) = .ok false (w.alloc (.cells #[.int .u64 (hi : Int), .int .u64 (lo : Int), .pointer (some a6)] 59)) := eqP_nil 9998 _ _
  have k2 : (Op.equalIn 9999 55 (.pointer (some a6)) (.pointer (some a4))).run Ybad.prog (w.alloc (.cells #[.int .u64 (hi : Int), .int .u64 (lo : Int), .pointer (some a6)] 59)) = .ok false (w.alloc (.cells #[.int .u64 (hi : Int), .int .u64 (lo : Int), .pointer (some a6)] 59)) := eqP_ne 9998 _ _ _ (same_ne a6 a4 _ (fun e => Z'.ne e.symm) Z'.b6 Z'.b4)
  have HB := hide hb
  clear hb Z Z'
  go_enter Ybad.func46, Ybad.ntmps46
  go_wp2_with fail
  go_ret
  exact ⟨rfl, HB.out⟩

set_option maxRecDepth 100000 in
/-- Addr.Is4In6: one or the other. -/
theorem is4in6 (hi lo : Nat) (w : World) (a4 a6 : Addr) (Z : Zs w a4 a6) : Calls Ybad.prog 35 #[adr hi lo (some a6)] w fun e w' => e = .returned (.bool ((hi == 0) && (lo / 4294967296 == 65535))) ∧ Below w.heap.size w w' := by
  obtain ⟨tb, htb⟩ : ∃ tb, tb = w.heap.size := ⟨_, rfl⟩
  obtain ⟨W0, hW0⟩ : ∃ W0, W0 = w.alloc (.cells #[.int .u64 (hi : Int), .int .u64 (lo : Int), .pointer (some a6)] 59) := ⟨_, rfl⟩
  have hbx : W0.heap[tb]? = some (.cells #[.int .u64 (hi : Int), .int .u64 (lo : Int), .pointer (some a6)] 59) := by rw [hW0]; exact hp_alloc_at htb
  have hb : Below w.heap.size w W0 := by rw [hW0]; exact (Below.refl _ _).alloc (Nat.le_refl _) _
  have HI : Hid (Calls Ybad.prog 46 #[adr hi lo (some a6)] W0 fun e w' => e = .returned (.bool true) ∧ (Below W0.heap.size W0 w' ∧ w'.cell? ⟨tb, 0, none⟩ = some (.int .u64 (hi : Int)) ∧ w'.cell? ⟨tb, 1, none⟩ = some (.int .u64 (lo : Int)))) :=
    (is6_z6 hi lo W0 a4 a6 (Z.on hb)).mono fun e w' hh => ⟨hh.1, hh.2, cell_at ((hh.2.block tb (lt_of_block hbx)).trans hbx) rfl, cell_at ((hh.2.block tb (lt_of_block hbx)).trans hbx) rfl⟩
  have c0 : W0.cell? ⟨tb, 0, none⟩ = some (.int .u64 (hi : Int)) := cell_at hbx rfl
  have c1 : W0.cell? ⟨tb, 1, none⟩ = some (.int .u64 (lo : Int)) := cell_at hbx rfl
  have c2 : W0.cell? ⟨tb, 2, none⟩ = some (.pointer (some a6)) := cell_at hbx rfl
  obtain ⟨Q, hQ⟩ : ∃ Q, Q = lo / 4294967296 := ⟨_, rfl⟩
  have q1 : (lo : Int) / 4294967296 = (Q : Int) := by omega
  rw [← hQ]
  have HB := hide hb
  have HW0 := hide hW0
  have HTB := hide htb
  have HQ := hide hQ
  clear hb hW0 htb hbx hQ Z
  by_cases h0 : hi = 0
  · have h0' : ((hi : Int) == 0) = true := by simp [h0]
    have H0 := hide h0
    clear h0
    by_cases h1 : Q = 65535
    · have h1' : ((Q : Int) == 65535) = true := by simp [h1]
      have H1 := hide h1
      clear h1
      go_enter Ybad.func35, Ybad.ntmps35
      go_upto_region 1 with fail
      rw [← HTB.out, ← HW0.out]
      go_wp2_with (go_at_call 46; refine HI.out.mono ?_; rintro e W1 ⟨rfl, hh, d0, d1⟩; have H2 := hide hh; clear hh)
      go_ret
      exact ⟨by rw [H0.out, H1.out]; rfl, HB.out.trans (Below.mono H2.out HB.out.size)⟩
    · have h1' : ((Q : Int) == 65535) = false := by simp; omega
      have h1b : (Q == 65535) = false := by simp; omega
      have H1 := hide h1b
      clear h1 h1b
      go_enter Ybad.func35, Ybad.ntmps35
      go_upto_region 1 with fail
      rw [← HTB.out, ← HW0.out]
      go_wp2_with (go_at_call 46; refine HI.out.mono ?_; rintro e W1 ⟨rfl, hh, d0, d1⟩; have H2 := hide hh; clear hh)
      go_ret
      exact ⟨by rw [H1.out, Bool.and_false]; rfl, HB.out.trans (Below.mono H2.out HB.out.size)⟩
  · have h0' : ((hi : Int) == 0) = false := by simp; omega
    have h0b : (hi == 0) = false := by simp; omega
    have H0 := hide h0b
    clear h0 h0b
    go_enter Ybad.func35, Ybad.ntmps35
    go_upto_region 1 with fail
    rw [← HTB.out, ← HW0.out]
    go_wp2_with (go_at_call 46; refine HI.out.mono ?_; rintro e W1 ⟨rfl, hh, d0, d1⟩; have H2 := hide hh; clear hh)
    go_ret
    exact ⟨by rw [H0.out, Bool.false_and]; rfl, HB.out.trans (Below.mono H2.out HB.out.size)⟩
end Go.Proofs.YbulkdphmDoor
