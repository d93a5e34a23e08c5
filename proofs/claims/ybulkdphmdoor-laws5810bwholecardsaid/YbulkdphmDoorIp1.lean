/-
  netip.appendDecimal.
-/
import Derived.Test.YbulkdphmDoorRows
import Derived.WalkKit
import Derived.ProofKit
import Derived.OpenShut
import Derived.WalkLawsBesides
import Derived.BigQuiet
import Derived.Laws.BitsAllLaws
import Derived.Laws.StructEq
import Derived.Outline
import Derived.Test.YbulkdphmDoorIp0
import Derived.Deep.RegionWith
import Derived.Deep.RegionHeld3
import Derived.Deep.DeepCutAuto
import Derived.Deep.DrawnRows
import Derived.Handy
namespace Go.Proofs.YbulkdphmDoor
open Go.ChangeShapes Go.WideShapes Go.ChangeAt Go.RowKit
open Go.ChangeMaps (setBlock)
set_option linter.unusedVariables false


open Go.Lib (byteCells decDigits)
def dig (d : Nat) : UInt8 := (#[48, 49, 50, 51, 52, 53, 54, 55, 56, 57, 97, 98, 99, 100, 101, 102] : Array UInt8).getD d 0
theorem idx_dig (d : Nat) (h : d < 16) (k : IntKind) (W : World) : (Instr.index 9 (.string ⟨#[48, 49, 50, 51, 52, 53, 54, 55, 56, 57, 97, 98, 99, 100, 101, 102]⟩) (.int k (d : Int))).run Ybad.prog W = .ok (.int .u8 ((dig d).toNat : Int)) W :=
  match d, h with
  | 0, _ => by kernel_rfl
  | 1, _ => by kernel_rfl
  | 2, _ => by kernel_rfl
  | 3, _ => by kernel_rfl
  | 4, _ => by kernel_rfl
  | 5, _ => by kernel_rfl
  | 6, _ => by kernel_rfl
  | 7, _ => by kernel_rfl
  | 8, _ => by kernel_rfl
  | 9, _ => by kernel_rfl
  | 10, _ => by kernel_rfl
  | 11, _ => by kernel_rfl
  | 12, _ => by kernel_rfl
  | 13, _ => by kernel_rfl
  | 14, _ => by kernel_rfl
  | 15, _ => by kernel_rfl
  | n + 16, h => absurd h (by omega)
theorem dec3 : ∀ x, x < 256 → decDigits x = (if 100 ≤ x then [dig (x / 100)] else []) ++ (if 10 ≤ x then [dig (x / 10 % 10)] else []) ++ [dig (x % 10)] := by decide +kernel
/-- The row l is owned; of w0's blocks only rows of bytes from B on may have turned. -/
def Ow (B : Nat) (v : Value) (l : List UInt8) (w0 w : World) : Prop := w.ownsRow B 5 1 v l.length (byteCells l) ∧ Below B w0 w ∧ Lib.OthersKept 5 none w0 w
theorem own_on {w w' : World} {B : Nat} {e : TypeId} {size : Nat} {v : Value} {n : Nat} {xs : List Value} (h : w.ownsRow B e size v n xs) (hb : Below w.heap.size w w') : w'.ownsRow B e size v n xs := by
  obtain ⟨hl, h0 | ⟨g, cap, cur, hv, hb', hh, r⟩⟩ := h
  · exact ⟨hl, .inl h0⟩
  · exact ⟨hl, .inr ⟨g, cap, cur, hv, hb', (hb.block g (lt_of_block hh)).trans hh, r⟩⟩

set_option maxRecDepth 100000 in
set_option maxHeartbeats 800000 in
theorem appDec1 (B : Nat) (v : Value) (l : List UInt8) (x : Nat) (w : World) (hown : w.ownsRow B 5 1 v l.length (byteCells l)) (hB : B ≤ w.heap.size) (hlim : l.length ≤ 1000) (hx : x < 10) :
    Calls Ybad.prog 44 #[v, .int .u8 x] w fun e w' => ∃ v', e = .returned v' ∧ Ow B v' (l ++ [dig (x % 10)]) w w' := by
  have h1 : ¬ (100 : Int) ≤ (x : Int) := by omega
  have h2 : ¬ (10 : Int) ≤ (x : Int) := by omega
  obtain ⟨a, ha⟩ : ∃ a, a = x / 100 := ⟨_, rfl⟩
  obtain ⟨b, hb⟩ : ∃ b, b = x / 10 := ⟨_, rfl⟩
  obtain ⟨b', hb'⟩ : ∃ b', b' = x / 10 % 10 := ⟨_, rfl⟩
  obtain ⟨c, hc⟩ : ∃ c, c = x % 10 := ⟨_, rfl⟩
  rw [← hc]
  have ka := idx_dig a (by omega) .u8
  have kb := idx_dig b' (by omega) .u8
  have kc := idx_dig c (by omega) .u8
  have qa1 : Int.tdiv (x : Int) 100 = (a : Int) := by rw [ha]; exact Int.tdiv_eq_ediv_of_nonneg (by omega)
  have qa2 : (x : Int) / 100 = (a : Int) := by omega
  have qb1 : Int.tdiv (x : Int) 10 = (b : Int) := by rw [hb]; exact Int.tdiv_eq_ediv_of_nonneg (by omega)
  have qb2 : (x : Int) / 10 = (b : Int) := by omega
  have qb3 : Int.tmod (b : Int) 10 = (b' : Int) := by rw [hb', hb]; rfl
  have qb4 : (b : Int) % 10 = (b' : Int) := by omega
  have qc1 : Int.tmod (x : Int) 10 = (c : Int) := by rw [hc]; rfl
  have qc2 : (x : Int) % 10 = (c : Int) := by omega
  obtain ⟨R, hR⟩ : ∃ R, R = l ++ [dig c] := ⟨_, rfl⟩
  rw [← hR]
  have HR := hide hR
  have H0 := hide hown
  clear hown ha hb hb' hc hR
  go_enter Ybad.func44, Ybad.ntmps44
  go_upto_region 5 with fail
  go_wp2_with (at_builtin; refine wpList_byte rfl _ _ rfl B v (l) (dig c) rfl rfl H0.out hB (by (try simp only [List.length_append, List.length_cons, List.length_nil]); omega) ?_; intro v5 w5 ho hbl hk; have H5 := hide (And.intro ho (And.intro (hbl) (hk))); clear ho hbl hk)
  go_ret
  refine ⟨v5, rfl, ?_⟩
  rw [HR.out]; exact H5.out

set_option maxRecDepth 100000 in
set_option maxHeartbeats 800000 in
theorem appDec2 (B : Nat) (v : Value) (l : List UInt8) (x : Nat) (w : World) (hown : w.ownsRow B 5 1 v l.length (byteCells l)) (hB : B ≤ w.heap.size) (hlim : l.length ≤ 1000) (h10 : 10 ≤ x) (hx : x < 100) :
    Calls Ybad.prog 44 #[v, .int .u8 x] w fun e w' => ∃ v', e = .returned v' ∧ Ow B v' (l ++ [dig (x / 10 % 10)] ++ [dig (x % 10)]) w w' := by
  have h1 : ¬ (100 : Int) ≤ (x : Int) := by omega
  have h2 : (10 : Int) ≤ (x : Int) := by omega
  obtain ⟨a, ha⟩ : ∃ a, a = x / 100 := ⟨_, rfl⟩
  obtain ⟨b, hb⟩ : ∃ b, b = x / 10 := ⟨_, rfl⟩
  obtain ⟨b', hb'⟩ : ∃ b', b' = x / 10 % 10 := ⟨_, rfl⟩
  obtain ⟨c, hc⟩ : ∃ c, c = x % 10 := ⟨_, rfl⟩
  rw [← hb', ← hc]
  have ka := idx_dig a (by omega) .u8
  have kb := idx_dig b' (by omega) .u8
  have kc := idx_dig c (by omega) .u8
  have qa1 : Int.tdiv (x : Int) 100 = (a : Int) := by rw [ha]; exact Int.tdiv_eq_ediv_of_nonneg (by omega)
  have qa2 : (x : Int) / 100 = (a : Int) := by omega
  have qb1 : Int.tdiv (x : Int) 10 = (b : Int) := by rw [hb]; exact Int.tdiv_eq_ediv_of_nonneg (by omega)
  have qb2 : (x : Int) / 10 = (b : Int) := by omega
  have qb3 : Int.tmod (b : Int) 10 = (b' : Int) := by rw [hb', hb]; rfl
  have qb4 : (b : Int) % 10 = (b' : Int) := by omega
  have qc1 : Int.tmod (x : Int) 10 = (c : Int) := by rw [hc]; rfl
  have qc2 : (x : Int) % 10 = (c : Int) := by omega
  obtain ⟨R, hR⟩ : ∃ R, R = l ++ [dig b'] ++ [dig c] := ⟨_, rfl⟩
  rw [← hR]
  have HR := hide hR
  have H0 := hide hown
  clear hown ha hb hb' hc hR
  go_enter Ybad.func44, Ybad.ntmps44
  go_upto_region 5 with (at_builtin; refine wpList_byte rfl _ _ rfl B v (l) (dig b') rfl rfl H0.out hB (by (try simp only [List.length_append, List.length_cons, List.length_nil]); omega) ?_; intro v4 w4 ho hbl hk; have H4 := hide (And.intro ho (And.intro (hbl) (hk))); clear ho hbl hk)
  go_wp2_with (at_builtin; refine wpList_byte rfl _ _ rfl B v4 (l ++ [dig b']) (dig c) rfl rfl H4.out.1 (Nat.le_trans hB H4.out.2.1.size) (by (try simp only [List.length_append, List.length_cons, List.length_nil]); omega) ?_; intro v5 w5 ho hbl hk; have H5 := hide (And.intro ho (And.intro (Below.trans H4.out.2.1 hbl) (Lib.OthersKept.trans H4.out.2.2 hk))); clear ho hbl hk)
  go_ret
  refine ⟨v5, rfl, ?_⟩
  rw [HR.out]; exact H5.out

set_option maxRecDepth 100000 in
set_option maxHeartbeats 800000 in
theorem appDec3 (B : Nat) (v : Value) (l : List UInt8) (x : Nat) (w : World) (hown : w.ownsRow B 5 1 v l.length (byteCells l)) (hB : B ≤ w.heap.size) (hlim : l.length ≤ 1000) (h100 : 100 ≤ x) (hx : x < 256) :
    Calls Ybad.prog 44 #[v, .int .u8 x] w fun e w' => ∃ v', e = .returned v' ∧ Ow B v' (l ++ [dig (x / 100)] ++ [dig (x / 10 % 10)] ++ [dig (x % 10)]) w w' := by
  have h1 : (100 : Int) ≤ (x : Int) := by omega
  have h2 : (10 : Int) ≤ (x : Int) := by omega
  obtain ⟨a, ha⟩ : ∃ a, a = x / 100 := ⟨_, rfl⟩
  obtain ⟨b, hb⟩ : ∃ b, b = x / 10 := ⟨_, rfl⟩
  obtain ⟨b', hb'⟩ : ∃ b', b' = x / 10 % 10 := ⟨_, rfl⟩
  obtain ⟨c, hc⟩ : ∃ c, c = x % 10 := ⟨_, rfl⟩
  rw [← ha, ← hb', ← hc]
  have ka := idx_dig a (by omega) .u8
  have kb := idx_dig b' (by omega) .u8
  have kc := idx_dig c (by omega) .u8
  have qa1 : Int.tdiv (x : Int) 100 = (a : Int) := by rw [ha]; exact Int.tdiv_eq_ediv_of_nonneg (by omega)
  have qa2 : (x : Int) / 100 = (a : Int) := by omega
  have qb1 : Int.tdiv (x : Int) 10 = (b : Int) := by rw [hb]; exact Int.tdiv_eq_ediv_of_nonneg (by omega)
  have qb2 : (x : Int) / 10 = (b : Int) := by omega
  have qb3 : Int.tmod (b : Int) 10 = (b' : Int) := by rw [hb', hb]; rfl
  have qb4 : (b : Int) % 10 = (b' : Int) := by omega
  have qc1 : Int.tmod (x : Int) 10 = (c : Int) := by rw [hc]; rfl
  have qc2 : (x : Int) % 10 = (c : Int) := by omega
  obtain ⟨R, hR⟩ : ∃ R, R = l ++ [dig a] ++ [dig b'] ++ [dig c] := ⟨_, rfl⟩
  rw [← hR]
  have HR := hide hR
  have H0 := hide hown
  clear hown ha hb hb' hc hR
  go_enter Ybad.func44, Ybad.ntmps44
  go_upto_region 3 with (at_builtin; refine wpList_byte rfl _ _ rfl B v (l) (dig a) rfl rfl H0.out hB (by (try simp only [List.length_append, List.length_cons, List.length_nil]); omega) ?_; intro v2 w2 ho hbl hk; have H2 := hide (And.intro ho (And.intro (hbl) (hk))); clear ho hbl hk)
  go_upto_region 5 with (at_builtin; refine wpList_byte rfl _ _ rfl B v2 (l ++ [dig a]) (dig b') rfl rfl H2.out.1 (Nat.le_trans hB H2.out.2.1.size) (by (try simp only [List.length_append, List.length_cons, List.length_nil]); omega) ?_; intro v4 w4 ho hbl hk; have H4 := hide (And.intro ho (And.intro (Below.trans H2.out.2.1 hbl) (Lib.OthersKept.trans H2.out.2.2 hk))); clear ho hbl hk)
  go_wp2_with (at_builtin; refine wpList_byte rfl _ _ rfl B v4 (l ++ [dig a] ++ [dig b']) (dig c) rfl rfl H4.out.1 (Nat.le_trans hB H4.out.2.1.size) (by (try simp only [List.length_append, List.length_cons, List.length_nil]); omega) ?_; intro v5 w5 ho hbl hk; have H5 := hide (And.intro ho (And.intro (Below.trans H4.out.2.1 hbl) (Lib.OthersKept.trans H4.out.2.2 hk))); clear ho hbl hk)
  go_ret
  refine ⟨v5, rfl, ?_⟩
  rw [HR.out]; exact H5.out

/-- netip.appendDecimal -/
theorem appDec (B : Nat) (v : Value) (l : List UInt8) (x : Nat) (w : World) (hown : w.ownsRow B 5 1 v l.length (byteCells l)) (hB : B ≤ w.heap.size) (hlim : l.length ≤ 1000) (hx : x < 256) :
    Calls Ybad.prog 44 #[v, .int .u8 x] w fun e w' => ∃ v', e = .returned v' ∧ Ow B v' (l ++ decDigits x) w w' := by
  rw [dec3 x hx]
  by_cases h1 : x < 10
  · rw [if_neg (by omega), if_neg (by omega)]
    exact appDec1 B v l x w hown hB hlim h1
  · by_cases h2 : x < 100
    · rw [if_neg (by omega), if_pos (by omega), List.nil_append, ← List.append_assoc]
      exact appDec2 B v l x w hown hB hlim (by omega) h2
    · rw [if_pos (by omega), if_pos (by omega), ← List.append_assoc, ← List.append_assoc]
      exact appDec3 B v l x w hown hB hlim (by omega) hx
end Go.Proofs.YbulkdphmDoor
