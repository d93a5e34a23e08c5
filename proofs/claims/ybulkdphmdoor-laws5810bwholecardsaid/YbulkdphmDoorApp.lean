/-
  Bytes appended.
-/
import Derived.Test.YbulkdphmDoorRows
import Derived.WalkKit
import Derived.ProofKit
import Derived.OpenShut
import Derived.WalkLawsBesides
import Derived.BigQuiet
import Derived.Laws.BitsAllLaws
import Derived.Laws.StructEq
import Derived.Outline
import Derived.Test.YbulkdphmDoorOidP
namespace Go.Proofs.YbulkdphmDoor
open Go.ChangeShapes Go.WideShapes Go.ChangeAt Go.RowKit
open Go.ChangeMaps (setBlock)
set_option linter.unusedVariables false

open Go.Lib (byteCells decDigits)
theorem info5 : (Ybad.prog.info? 5).map (fun i => (i.zero, i.size, i.bytes)) = some (some (.int .u8 0), 1, 1) := by kernel_rfl
theorem info38 : (Ybad.prog.info? 38).map (fun i => (i.zero, i.size, i.bytes)) = some (some (.int .u64 0), 1, 8) := by kernel_rfl

/-- append(b, y): one byte onto a row that the call owns. -/
theorem wpList_byte {ops : Array Oper} {rest : List Oper} {o : Oper} {a : Act} {Q : Exit → Act → World → Prop} {w : World} (hgd : o.guard = none) (s x : Operand)
    (ho : o.op = .call { callee := .builtin .append, args := #[s, x], argTypes := #[22, 22] }) (B : Nat) (v : Value) (l : List UInt8) (y : UInt8) (hs : a.eval s = v) (hx : a.eval x = .slice (some ⟨w.heap.size, 0, none⟩) 1 1)
    (hown : w.ownsRow B 5 1 v l.length (byteCells l)) (hB : B ≤ w.heap.size) (hlim : l.length + 1 ≤ 140737488355328)
    (h : ∀ v' w', w'.ownsRow B 5 1 v' (l ++ [y]).length (byteCells (l ++ [y])) → Below B w w' → Lib.OthersKept 5 none w w' → wpList Ybad.prog ops Q rest (a.put o.dst v') w') :
    wpList Ybad.prog ops Q (o :: rest) a (w.alloc (.cells #[.int .u8 (y.toNat : Int)] 5)) := by
  obtain ⟨i0, hi, hz0, hz1, hz2⟩ := info_parts info5
  refine wpList_append_own _ hgd s x 22 ho B 5 i0 (.int .u8 0) 1 1 Ybad.underlying22 hi hz0 hz1 hz2 rfl (by decide) v _ _ hs (hown.alloc _) ⟨w.heap.size, 0, none⟩ 1 1 [Value.int .u8 (y.toNat : Int)] hx rfl (by intro j u' hj; match j, hj with | 0, hj => simp at hj; subst hj; simp [Addr.add]) (by intro u' hu'; simp at hu'; subst hu'; rfl) (by unfold maxLen; omega) (by omega) (by simp; omega) ?_
  intro v' w' ho' hg _
  refine h v' w' ?_ ?_ ?_
  · have e : byteCells l ++ [Value.int .u8 (y.toNat : Int)] = byteCells (l ++ [y]) := by simp [byteCells]
    rw [← e, List.length_append]
    exact ho'
  · exact ((Below.refl B w).alloc hB _).grown hg (by simp; omega) (fun k hk => (hown.lt k hk).1)
  · refine ((Lib.OthersKept.refl 5 none w).alloc _).grown hg (fun g hgk => ?_)
    obtain ⟨c, fz, hc⟩ := Lib.ownsRow_kind hown g hgk
    exact ⟨c, fz, (Lib.alloc_old w _ g (lt_of_block hc)).trans hc⟩

theorem ownsRow_others {w w' : World} {B : Nat} {e : TypeId} {size : Nat} {v : Value} {n : Nat} {xs : List Value} (h : w.ownsRow B e size v n xs) (he : e ≠ 5) (hk : Lib.OthersKept 5 none w w') : w'.ownsRow B e size v n xs := by
  obtain ⟨hl, h0 | ⟨g, cap, cur, hv, hb, hh, r⟩⟩ := h
  · exact ⟨hl, .inl h0⟩
  · exact ⟨hl, .inr ⟨g, cap, cur, hv, hb, hk g _ hh (by simp) (fun c fz e' => by cases e'; exact he rfl), r⟩⟩

theorem and127_u8 (x : Int) (h : 0 ≤ x ∧ x < 256) : bits .and .u8 x 127 = (((x % 128).toNat : Nat) : Int) := by
  obtain ⟨X, rfl⟩ := Int.eq_ofNat_of_zero_le h.1
  rw [show (127 : Int) = ((127 : Nat) : Int) from rfl, u8_and_nat X 127 (by omega) (by omega), nat_mask7]
  omega
theorem and128_u8_lt (x : Int) (h : 0 ≤ x) (h' : x < 128) : bits .and .u8 x 128 = 0 := by
  obtain ⟨X, rfl⟩ := Int.eq_ofNat_of_zero_le h
  have key : ∀ y, y < 128 → y &&& 128 = 0 := by decide
  rw [show (128 : Int) = ((128 : Nat) : Int) from rfl, u8_and_nat X 128 (by omega) (by omega), key X (by omega)]
  rfl
theorem and128_u8_ge (x : Int) (h : 128 ≤ x) (h' : x < 256) : bits .and .u8 x 128 = 128 := by
  obtain ⟨X, rfl⟩ := Int.eq_ofNat_of_zero_le (show 0 ≤ x by omega)
  have key : ∀ y, y < 128 → (y + 128) &&& 128 = 128 := by decide
  have e := key (X - 128) (by omega)
  rw [show X - 128 + 128 = X by omega] at e
  rw [show (128 : Int) = ((128 : Nat) : Int) from rfl, u8_and_nat X 128 (by omega) (by omega), e]
theorem sub7_or (v : Nat) (x : Int) (h : 0 ≤ x ∧ x < 256) (hv : v ≤ 4294967375) : bits .or .u64 (IntKind.u64.wrap ((v : Int) * 128)) (((x % 128).toNat : Nat) : Int) = ((sub7 v x : Nat) : Int) := by
  rw [or7_u64 v _ (by omega) (by omega) (by omega) (by omega)]
  unfold sub7
  omega
/-- string(b) of a row that the call owns. -/
theorem own_string (B : Nat) (v : Value) (l : List UInt8) (w : World) (h : w.ownsRow B 5 1 v l.length (byteCells l)) (hl : 0 < l.length) : (convert 22 9 v).run Ybad.prog w = .ok (.string ⟨l.toArray⟩) w := by
  have h2 := h.2
  rcases h2 with ⟨-, h0⟩ | ⟨g, cap, cur, rfl, -, -, -, -, -, -⟩
  · omega
  · exact run_convert_bytes_back (P := Ybad.prog) w 22 9 5 ⟨g, 0, none⟩ cap l Ybad.underlying22 Ybad.underlying5 Ybad.underlying9 (fun j hj => h.cells (g := g) rfl j _ (by simp [byteCells, hj]))
theorem dec_len (u : Nat) (h : u < 18446744073709551616) : (decDigits u).length ≤ 20 := by
  rw [Lib.decDigits_length]
  by_cases h1 : 1 ≤ u
  · have := Lib.numDigits_eq u h1 h
    split at this <;> omega
  · rw [show u = 0 by omega, Lib.nDigits_small (by omega)]
    omega
end Go.Proofs.YbulkdphmDoor
