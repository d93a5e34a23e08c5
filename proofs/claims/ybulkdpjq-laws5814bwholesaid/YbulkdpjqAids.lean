/-
  Laws for the walk of the law itself: equality of pointers, keys and identifiers; long rows read and written.
-/
import Derived.Test.YbulkdpjqRows
import Derived.WalkKit
import Derived.ProofKit
import Derived.OpenShut
import Derived.WalkLawsBesides
import Derived.BigQuiet
import Derived.Laws.BitsAllLaws
import Derived.Laws.StructEq
import Derived.Outline
import Derived.Test.YbulkdpjqHeap
import Derived.Test.YbulkdpjqState
import Derived.Test.YbulkdpjqFew
import Derived.Test.YbulkdpjqHanded
import Derived.Test.YbulkdpjqRec
import Derived.Deep.RegionWith
import Derived.Deep.RegionHeld3
import Derived.Deep.DeepCutAuto
import Derived.Deep.DrawnRows
namespace Go.Proofs.Ybulkdpjq
open Go.ChangeShapes Go.WideShapes Go.ChangeAt Go.RowKit
open Go.ChangeMaps (setBlock)
set_option linter.unusedVariables false

theorem same_addr (b : Nat) (w : World) : (sameAddr ⟨b, 0, none⟩ ⟨b, 0, none⟩).run Yba.prog w = .ok true w := by
  simp [sameAddr]

theorem eqIn_ptr (d : Nat) (t e n : Nat) (h : Yba.prog.underlying t = some (.pointer e)) (w : World) (hi : (sizeOf e).run Yba.prog w = .ok (n + 1) w) (b : Nat) :
    (Op.equalIn (d + 1) t (.pointer (some ⟨b, 0, none⟩)) (.pointer (some ⟨b, 0, none⟩))).run Yba.prog w = .ok true w := by
  simp [Op.equalIn, run_underlying h, hi, same_addr]

theorem neq_of_eq {t : TypeId} {x y : Option Addr} {b : Bool} {w : World} (h : (Op.equal t (.pointer x) (.pointer y)).run Yba.prog w = .ok b w) : (binOp .neq t (.pointer x) (.pointer y)).run Yba.prog w = .ok (.bool (!b)) w := by
  simp only [binOp]
  simp [h]

theorem neq44 (b : Nat) (w : World) : (binOp .neq 44 (.pointer (some ⟨b, 0, none⟩)) (.pointer (some ⟨b, 0, none⟩))).run Yba.prog w = .ok (.bool false) w :=
  neq_of_eq (eqIn_ptr 9999 44 48 47 Yba.underlying44 w (by kernel_rfl) b)

theorem neq31 (po : Option Addr) (h : po = none ∨ ∃ b, po = some ⟨b, 0, none⟩) (w : World) : (binOp .neq 31 (.pointer po) (.pointer po)).run Yba.prog w = .ok (.bool false) w := by
  rcases h with rfl | ⟨b, rfl⟩
  · exact neq_of_eq (run_equal_pointer_nil w 31 none Yba.underlying31)
  · exact neq_of_eq (eqIn_ptr 9999 31 35 5 Yba.underlying31 w (by kernel_rfl) b)

theorem neq37 (t : ByteArray) (k : Int) (ht : t.size ≤ maxLen) (hk : (Lit.int .u8 k).wf = true) (w : World) : (binOp .neq 37 (.agg (KC t k)) (.agg (KC t k))).run Yba.prog w = .ok (.bool false) w := by
  have h := key_equal t t k k ht ht hk hk w
  rw [show sameKey t t k k = true by simp [sameKey]] at h
  have h' : (Op.equalIn 10000 37 (.agg (KC t k)) (.agg (KC t k))).run Yba.prog w = .ok true w := h
  rw [run_neq_struct, h']; rfl

theorem guard37 (x y : Operand) (cs ds : Array Value) (w : World) : (eqGuard .neq 37 x y (.agg cs) (.agg ds)).run Yba.prog w = .ok () w := by
  simp [eqGuard]
theorem guard30 (x y : Operand) (cs ds : Array Value) (w : World) : (eqGuard .eql 30 x y (.agg cs) (.agg ds)).run Yba.prog w = .ok () w := by
  simp [eqGuard]

theorem range_pre {w : World} {b : Nat} {t : ByteArray} {k h : Int} {s : Value} {few : Bool} (hb : w.heap[b]? = some (.cells (EC t k s h few) 48)) : w.rangeAt b 0 (KC t k).toList := fun j v hv => by
  have e : (EC t k s h few).toList = (KC t k).toList ++ [.pointer none, s, .int .u64 (h % 1000000000), .int .i64 (h / 1000000000), .pointer none, .bool few, .int .u64 0, .bool false, .pointer none, .pointer none, .int .u64 0, .int .u64 0, .int .i64 0, .pointer none, .pointer none] := rfl
  refine range_block hb j v ?_
  rw [e]
  exact (List.getElem?_append_left (List.getElem?_eq_some_iff.1 hv).1).trans hv

theorem wpList_load_as {P : Program} {ops : Array Oper} {rest : List Oper} {op : Oper} {a : Act} {w : World} {Q : Exit → Act → World → Prop} (hw : Region.wanted op (yielded ops a.tmps) = true) (ty : TypeId) (x : Operand) (ho : op.op = .load ty x)
    (b o : Nat) (hx : a.eval x = .pointer (some ⟨b, o, none⟩)) (cs : List Value) (d : TypeDesc) (hc : w.rangeAt b o cs)
    (hu : P.underlying ty = some d) (hd : d.isRow = true) (hi : (P.info? ty).map (·.size) = some cs.length) (v : Value) (hv : v = .agg cs.toArray)
    (h : wpList P ops Q rest (a.put op.dst v) w) : wpList P ops Q (op :: rest) a w :=
  wpList_step fun _ hK => by rw [if_pos hw]; exact wp_load_mid ty x ho b o hx cs d hc hu hd hi (hK _ _ (hv ▸ h))

theorem range_tail {w : World} {b : Nat} {t : ByteArray} {k : Int} (hb : w.heap[b]? = some (.cells (KC t k) 37)) : w.rangeAt b 1 (idC k).toList := fun j v hv => by
  have e : (KC t k).toList = .string t :: (idC k).toList := rfl
  have := range_block hb (j + 1) v (by rw [e]; exact hv)
  rw [show 0 + (j + 1) = 1 + j by omega] at this
  exact this

theorem eql30 (k k' : Int) (hk : (Lit.int .u8 k).wf = true) (hk' : (Lit.int .u8 k').wf = true) (w : World) : (binOp .eql 30 (.agg (idC k)) (.agg (idC k'))).run Yba.prog w = .ok (.bool (k == k')) w := by
  obtain ⟨r, hr, hiff⟩ := run_equalIn_deep (P := Yba.prog) 9997 3 30 (by kernel_rfl) w 3 3 (.agg (idC k)) (.agg (idC k')) _ _ (by kernel_rfl) (by kernel_rfl) (lits30 k hk) (lits30 k' hk')
  have e : r = (k == k') := by
    rw [Bool.eq_iff_iff, hiff]
    simp
  have hr' : (Op.equalIn 10000 30 (.agg (idC k)) (.agg (idC k'))).run Yba.prog w = .ok r w := hr
  rw [run_eql_struct, hr', e]; rfl

theorem sameKey_swap (t t' : ByteArray) (k k' : Int) : sameKey t t' k k' = (t'.toList == t.toList && k' == k) := by
  unfold sameKey
  rw [Bool.eq_iff_iff]
  simp only [Bool.and_eq_true, beq_iff_eq]
  constructor
  · rintro ⟨h1, h2⟩; exact ⟨h1.symm, h2.symm⟩
  · rintro ⟨h1, h2⟩; exact ⟨h1.symm, h2.symm⟩

theorem sameKey_self (t : ByteArray) (k : Int) : sameKey t t k k = true := by simp [sameKey]
theorem info37 : (Yba.prog.info? 37).map (·.size) = some 33 := by kernel_rfl
abbrev SC (mb : Nat) (l : Int) : Array Value := #[.map (some mb), .map none, .slice none 0 0, .pointer none, .int .u64 0, .int .i64 l, .pointer none, .int .i64 0, .map none]

theorem Grew.put {W w : World} {m : Nat} (h : Grew W w) (hm : W.heap.size ≤ m) (o : Obj) : Grew W (setBlock w m o) :=
  Below.trans h (((Kept.refl (· = m) w).setBlock (.inl rfl) o).below h.size (fun k hk => by subst hk; exact hm))

theorem make43 (w : World) : (Instr.makeMap 43 none).run Yba.prog w = .ok (.map (some w.heap.size)) (w.alloc (.map #[] 0)) := by
  exact run_makeMap ..

theorem Grew.kept {W w w1 : World} {b : Nat} (h : Grew W w) (kp : Kept (· = b) w w1) (hb : W.heap.size ≤ b) : Grew W w1 :=
  Below.trans h (kp.below h.size (fun k hk => by subst hk; exact hb))

theorem add_zero (d : Int) (w : World) (h : -2305843009213693952 ≤ d ∧ d ≤ 2305843009213693951) : Calls Yba.prog 6 #[.agg #[.int .u64 0, .int .i64 0, .pointer none], .int .i64 d] w fun e w' => e = .returned (AT d) ∧ ∃ C1 C2, w' = (w.alloc (.cells C1 40)).alloc (.cells C2 40) := by
  have := add_any 0 d w (by omega) (by omega) (by omega) (by omega)
  rw [Int.zero_add] at this
  exact this
theorem info40 : (Yba.prog.info? 40).map (·.size) = some 3 := by kernel_rfl
abbrev zeroT : Array Value := #[.int .u64 0, .int .i64 0, .pointer none]
theorem one_T (x y : Int) : ∀ v ∈ (#[.int .u64 x, .int .i64 y, .pointer none] : Array Value).toList, v.oneCell' = true := by
  intro v hv
  simp at hv
  rcases hv with rfl | rfl | rfl <;> rfl

theorem one_kc (t : ByteArray) (k : Int) : ∀ v ∈ (KC t k).toList, v.oneCell' = true := by
  intro v hv
  simp at hv
  rcases hv with rfl | rfl | rfl <;> rfl
theorem wp_store_all {P : Program} {op : Oper} {a : Act} {w : World} {K : Act → World → Prop} {Q : Exit → Act → World → Prop} (ty : TypeId) (x y : Operand) (ho : op.op = .store ty x y)
    (b : Nat) (cells C : Array Value) (t : TypeId) (hx : a.eval x = .pointer (some ⟨b, 0, none⟩)) (hy : a.eval y = .agg cells) (hb : w.heap[b]? = some (.cells C t (0, 0))) (hsz : C.size = cells.size)
    (hi : (P.info? ty).map (·.size) = some cells.size) (h1 : ∀ v ∈ cells.toList, v.oneCell' = true)
    (h : ∀ w', w'.heap[b]? = some (.cells cells t (0, 0)) → Kept (· = b) w w' → K (a.put op.dst undef) w') : op.wp P a w K Q := by
  unfold Oper.wp execOp
  simp only [ho, hx, hy, Instr.storeAt, Instr.sureAddr, Sem.run_bind, Sem.run_pure, Result.andThen_ok, run_storeVar_all ty hb hsz hi h1]
  exact h _ (hp_setRow_eq hb) ⟨rfl, rfl, rfl, by simp [World.setRow], fun k hk hne => hp_setRow_ne hne⟩

theorem quiet_one {P : Program} {f : FuncId} {args : Array Value} {W : World} {x : Nat} {v : Value}
    (h : Calls P f args (W.drewN x) fun e w' => e = .returned v ∧ ∃ m, w' = (W.drewN x).drewN m) : Calls P f args (W.drewN x) fun e w' => e = .returned v ∧ ∃ m, w' = W.drewN m :=
  h.mono fun _ _ ⟨h1, m, h2⟩ => ⟨h1, x + m, by rw [h2, World.drewN_drewN]⟩

theorem wrap_sum {i : Inp} (ok : i.Ok) : IntKind.i64.wrap (i.H + i.L) = i.H + i.L := by
  have h1 := Inp.H_ok ok
  have h2 := Inp.L_ok ok
  rw [IntKind.wrap_i64]; omega
end Go.Proofs.Ybulkdpjq
