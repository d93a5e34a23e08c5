/-
  Records and store keys: a record's cells, (*record).same, zzs5814bsamerec; the key of a store's map, its equality, the map of at most one entry.
-/
import Derived.Test.YbulkdpjqRows
import Derived.WalkKit
import Derived.ProofKit
import Derived.OpenShut
import Derived.WalkLawsBesides
import Derived.BigQuiet
import Derived.Laws.BitsAllLaws
import Derived.Laws.StructEq
import Derived.Test.YbulkdpjqHeap
import Derived.Test.YbulkdpjqBytes
import Derived.Deep.QuietTactic
import Derived.Deep.RegionHeld3
import Derived.Deep.DeepCutAuto
namespace Go.Proofs.Ybulkdpjq
open Go.ChangeShapes Go.WideShapes Go.ChangeAt Go.RowKit
open Go.ChangeMaps (setBlock)
set_option linter.unusedVariables false

/-! ### records -/
abbrev RecC (t : ByteArray) (v : Value) (s : Int) (g : Value) : Array Value := #[.string t, v, .slice none 0 0, .string ⟨#[]⟩, .int .u64 s, g]
def IsRec (w : World) (b : Nat) (t : ByteArray) (v : Value) (s : Int) (g : Value) : Prop := w.heap[b]? = some (.cells (RecC t v s g) 35)

/-- A record's cells, one by one. -/
theorem IsRec.cells {w : World} {b : Nat} {t : ByteArray} {v : Value} {s : Int} {g : Value} (h : IsRec w b t v s g) :
    w.cell? ⟨b, 0, none⟩ = some (.string t) ∧ w.cell? ⟨b, 1, none⟩ = some v ∧ w.cell? ⟨b, 4, none⟩ = some (.int .u64 s) ∧ w.cell? ⟨b, 5, none⟩ = some g :=
  ⟨cell_at h rfl, cell_at h rfl, cell_at h rfl, cell_at h rfl⟩

theorem ret_bool' {a b : Bool} (h : a = b) : Ending.returned (.bool a) = .returned (.bool b) := by rw [h]

/-- '(*record).same' of records that are not signed. -/
theorem same_plain (b b' : Nat) (t t' : ByteArray) (v v' g g' : Value) (s s' : Int) (xs ys : List Int) (w : World) (h : IsRec w b t v s g) (h' : IsRec w b' t' v' s' g') (hv : IsB w v xs) (hv' : IsB w v' ys)
    (ht : (t.toList == [115, 105, 103, 110, 101, 100]) = false) (hx : ∀ x ∈ xs, 0 ≤ x ∧ x ≤ 255) (hy : ∀ x ∈ ys, 0 ≤ x ∧ x ≤ 255) :
    Calls Yba.prog 15 #[.pointer (some ⟨b, 0, none⟩), .pointer (some ⟨b', 0, none⟩)] w fun e w' => e = .returned (.bool (xs == ys)) ∧ ∃ q, w' = w.drewN q := by
  obtain ⟨c0, c1, c4, c5⟩ := h.cells
  obtain ⟨d0, d1, d4, d5⟩ := h'.cells
  have HV := hide hv
  have HV' := hide hv'
  have HE := hide (str_beq hx hy)
  clear h h' hv hv' hx hy
  go_enter Yba.func15, Yba.ntmps15
  go_wp2_with fail
  go_quiet ((go_at_call 18; exact Calls.quiet_of_same (bytesEqual_any HV.out HV'.out)))
  go_wp2
  go_ret
  exact ⟨ret_bool' HE.out, _, rfl⟩

/-- .. of signed records of one number. -/
theorem same_signed_eq (b b' : Nat) (t' : ByteArray) (v v' g g' : Value) (s : Int) (xs ys : List Int) (w : World) (h : IsRec w b ⟨#[115, 105, 103, 110, 101, 100]⟩ v s g) (h' : IsRec w b' t' v' s g') (hv : IsB w g xs) (hv' : IsB w g' ys)
    (hx : ∀ x ∈ xs, 0 ≤ x ∧ x ≤ 255) (hy : ∀ x ∈ ys, 0 ≤ x ∧ x ≤ 255) :
    Calls Yba.prog 15 #[.pointer (some ⟨b, 0, none⟩), .pointer (some ⟨b', 0, none⟩)] w fun e w' => e = .returned (.bool (xs == ys)) ∧ ∃ q, w' = w.drewN q := by
  obtain ⟨c0, c1, c4, c5⟩ := h.cells
  obtain ⟨d0, d1, d4, d5⟩ := h'.cells
  have HV := hide hv
  have HV' := hide hv'
  have HE := hide (str_beq hx hy)
  clear h h' hv hv' hx hy
  go_enter Yba.func15, Yba.ntmps15
  go_wp2_with fail
  go_quiet ((go_at_call 18; exact Calls.quiet_of_same (bytesEqual_any HV.out HV'.out)))
  go_wp2
  go_ret
  exact ⟨ret_bool' HE.out, _, rfl⟩

/-- .. of signed records of two numbers. -/
theorem same_signed_ne (b b' : Nat) (t' : ByteArray) (v v' g g' : Value) (s s' : Int) (w : World) (h : IsRec w b ⟨#[115, 105, 103, 110, 101, 100]⟩ v s g) (h' : IsRec w b' t' v' s' g') (hs : (s == s') = false) :
    Calls Yba.prog 15 #[.pointer (some ⟨b, 0, none⟩), .pointer (some ⟨b', 0, none⟩)] w fun e w' => e = .returned (.bool false) ∧ ∃ q, w' = w.drewN q := by
  obtain ⟨c0, c1, c4, c5⟩ := h.cells
  obtain ⟨d0, d1, d4, d5⟩ := h'.cells
  clear h h'
  go_enter Yba.func15, Yba.ntmps15
  go_wp2_with fail
  go_quiet (fail)
  go_wp2
  go_ret
  exact ⟨rfl, _, rfl⟩

theorem IsB.form {w : World} {v : Value} {xs : List Int} (h : IsB w v xs) : ∃ a n c, v = .slice a n c := by
  rcases h with ⟨rfl, rfl⟩ | ⟨b, off, c, rfl, hc⟩
  · exact ⟨_, _, _, rfl⟩
  · exact ⟨_, _, _, rfl⟩

/-- 'zzs5814bsamerec' of a record and its copy. -/
theorem samerec_any (b b' : Nat) (t : ByteArray) (v v' g g' : Value) (s : Int) (xs ys : List Int) (w : World) (h : IsRec w b t v s g) (h' : IsRec w b' t v' s g') (hv : IsB w v xs) (hv' : IsB w v' xs) (hg : IsB w g ys) (hg' : IsB w g' ys)
    (hn : xs.length ≤ 1048576) (hm : ys.length ≤ 1048576) (n1 : nilB v = nilB v') (n2 : nilB g = nilB g') :
    Calls Yba.prog 9 #[.pointer (some ⟨b, 0, none⟩), .pointer (some ⟨b', 0, none⟩)] w fun e w' => e = .returned (.bool true) ∧ ∃ q, w' = w.drewN q := by
  obtain ⟨a1, l1, k1, rfl⟩ := hv.form
  obtain ⟨a2, l2, k2, rfl⟩ := hv'.form
  obtain ⟨a3, l3, k3, rfl⟩ := hg.form
  obtain ⟨a4, l4, k4, rfl⟩ := hg'.form
  obtain ⟨c0, c1, c4, c5⟩ := h.cells
  obtain ⟨d0, d1, d4, d5⟩ := h'.cells
  have m1 : a2.isNone = a1.isNone := n1.symm
  have m2 : a4.isNone = a3.isNone := n2.symm
  have en := eql22
  have HV := hide hv
  have HV' := hide hv'
  have HG := hide hg
  have HG' := hide hg'
  have eqx : (xs == xs) = true := by simp
  have eqy : (ys == ys) = true := by simp
  have B1 : ∀ n, Calls Yba.prog 8 #[.slice a1 l1 k1, .slice a2 l2 k2] (w.drewN n) fun e w' => e = .returned (.bool true) ∧ ∃ m, w' = (w.drewN n).drewN m := fun n => by
    have := beq_any (w := w.drewN n) hn hn HV.out HV'.out
    rw [eqx] at this
    exact this
  have B2 : ∀ n, Calls Yba.prog 8 #[.slice a3 l3 k3, .slice a4 l4 k4] (w.drewN n) fun e w' => e = .returned (.bool true) ∧ ∃ m, w' = (w.drewN n).drewN m := fun n => by
    have := beq_any (w := w.drewN n) hm hm HG.out HG'.out
    rw [eqy] at this
    exact this
  have HB1 := hide B1
  have HB2 := hide B2
  clear h h' hv hv' hg hg' n1 n2 eqx eqy B1 B2
  go_enter Yba.func9, Yba.ntmps9
  go_wp2_with fail
  simp only [List.append]
  go_quiet ((first | (go_at_call_of 8 (Value.slice a1 l1 k1); exact Calls.quiet_of (HB1.out _)) | (go_at_call_of 8 (Value.slice a3 l3 k3); exact Calls.quiet_of (HB2.out _))))
  go_wp2
  go_ret
  exact ⟨rfl, _, rfl⟩

theorem samerec_nil (w : World) : Calls Yba.prog 9 #[.pointer none, .pointer none] w fun e w' => e = .returned (.bool true) ∧ w' = w := by
  go_enter Yba.func9, Yba.ntmps9
  go_wp2
  go_ret
  exact ⟨rfl, rfl⟩

/-! ### a store's key -/
abbrev idC (k : Int) : Array Value := #[.int .u8 k, .int .u8 0, .int .u8 0, .int .u8 0, .int .u8 0, .int .u8 0, .int .u8 0, .int .u8 0, .int .u8 0, .int .u8 0, .int .u8 0, .int .u8 0, .int .u8 0, .int .u8 0, .int .u8 0, .int .u8 0, .int .u8 0, .int .u8 0, .int .u8 0, .int .u8 0, .int .u8 0, .int .u8 0, .int .u8 0, .int .u8 0, .int .u8 0, .int .u8 0, .int .u8 0, .int .u8 0, .int .u8 0, .int .u8 0, .int .u8 0, .int .u8 0]
abbrev KC (t : ByteArray) (k : Int) : Array Value := #[.string t, .int .u8 k, .int .u8 0, .int .u8 0, .int .u8 0, .int .u8 0, .int .u8 0, .int .u8 0, .int .u8 0, .int .u8 0, .int .u8 0, .int .u8 0, .int .u8 0, .int .u8 0, .int .u8 0, .int .u8 0, .int .u8 0, .int .u8 0, .int .u8 0, .int .u8 0, .int .u8 0, .int .u8 0, .int .u8 0, .int .u8 0, .int .u8 0, .int .u8 0, .int .u8 0, .int .u8 0, .int .u8 0, .int .u8 0, .int .u8 0, .int .u8 0, .int .u8 0]

def zeros : Nat → List Lit
  | 0 => []
  | n + 1 => .int .u8 0 :: zeros n

theorem cells5' : Yba.prog.cellsOf 5 = 1 := by kernel_rfl
theorem cells30 : Yba.prog.cellsOf 30 = 32 := by kernel_rfl
theorem cells27 : Yba.prog.cellsOf 27 = 1 := by kernel_rfl
theorem cells37 : Yba.prog.cellsOf 37 = 33 := by kernel_rfl

theorem lits5 (k : Int) (hk : (Lit.int .u8 k).wf = true) (d : Nat) : Yba.prog.keyLits (d + 1) 5 [.int .u8 k] = some [.int .u8 k] := by
  simp [Program.keyLits, Yba.underlying5, hk]
theorem lits27 (t : ByteArray) (ht : t.size ≤ maxLen) (d : Nat) : Yba.prog.keyLits (d + 1) 27 [.string t] = some [.string t.data.toList] := by
  simp [Program.keyLits, Yba.underlying27, ht]
set_option maxRecDepth 100000 in
theorem lits30 (k : Int) (hk : (Lit.int .u8 k).wf = true) : Yba.prog.keyLits 3 30 (idC k).toList = some (.int .u8 k :: zeros 31) := by
  have h0 := lits5 0 (by decide) 1
  have h1 := lits5 k hk 1
  rw [show Yba.prog.keyLits 3 30 (idC k).toList = if (idC k).toList.length = Yba.prog.cellsOf 30 then ((List.range 32).mapM fun i => Yba.prog.keyLits 2 5 (((idC k).toList.drop (i * Yba.prog.cellsOf 5)).take (Yba.prog.cellsOf 5))).map List.flatten else none from by
    rw [Program.keyLits]
    exact Yba.underlying30]
  rw [cells5', cells30, if_pos (show (idC k).toList.length = 32 from rfl)]
  simp [List.range, List.range.loop, h0, h1, zeros]
set_option maxRecDepth 100000 in
theorem lits37 (t : ByteArray) (k : Int) (ht : t.size ≤ maxLen) (hk : (Lit.int .u8 k).wf = true) : Yba.prog.keyLits 4 37 (KC t k).toList = some (.string t.data.toList :: .int .u8 k :: zeros 31) := by
  have h0 := lits27 t ht 2
  have h1 := lits30 k hk
  rw [Program.keyLits.eq_def]
  simp only [Yba.underlying37]
  rw [cells37, if_pos ⟨rfl, by simp⟩]
  simp only [List.mapM_cons, List.mapM_nil, cells27, cells30]
  rw [show (List.take 1 (List.drop 0 (KC t k).toList)) = [.string t] from rfl, show (List.take 32 (List.drop 1 (KC t k).toList)) = (idC k).toList from rfl, h0, h1]
  rfl

def sameKey (t t' : ByteArray) (k k' : Int) : Bool := t.toList == t'.toList && k == k'

theorem key_equal (t t' : ByteArray) (k k' : Int) (ht : t.size ≤ maxLen) (ht' : t'.size ≤ maxLen) (hk : (Lit.int .u8 k).wf = true) (hk' : (Lit.int .u8 k').wf = true) (w : World) :
    (Op.equal 37 (.agg (KC t k)) (.agg (KC t' k'))).run Yba.prog w = .ok (sameKey t t' k k') w := by
  obtain ⟨r, hr, hiff⟩ := run_equalIn_deep (P := Yba.prog) 9996 4 37 (by kernel_rfl) w 4 4 (.agg (KC t k)) (.agg (KC t' k')) _ _ (by kernel_rfl) (by kernel_rfl) (lits37 t k ht hk) (lits37 t' k' ht' hk')
  have e : r = sameKey t t' k k' := by
    rw [Bool.eq_iff_iff, hiff]
    simp [sameKey, ByteArray.toList_eq]
  rw [← e]
  exact hr

theorem key_check (em : Bool) (t : ByteArray) (k : Int) (ht : t.size ≤ maxLen) (hk : (Lit.int .u8 k).wf = true) (w : World) : (Instr.checkKey em 10000 37 (.agg (KC t k))).run Yba.prog w = .ok () w :=
  run_checkKey_deep (P := Yba.prog) em 9996 4 37 (by kernel_rfl) w 4 (.agg (KC t k)) _ (by kernel_rfl) (lits37 t k ht hk)

theorem wide37 : (match Yba.prog.underlying 37 with | some (.array _ _) | some (.struct _) => true | _ => false) = true := by rw [Yba.underlying37]

theorem run_put_first {w : World} {m : Nat} (hm : w.heap[m]? = some (.map #[] 0)) (t : ByteArray) (k : Int) (ht : t.size ≤ maxLen) (hk : (Lit.int .u8 k).wf = true) (v : Value) :
    (Instr.mapUpdate 43 (.map (some m)) (.agg (KC t k)) v).run Yba.prog w = .ok () (setBlock w m (.map #[{ key := .agg (KC t k), val := v, born := 0 }] 1)) := by
  have hf : (Instr.findKey 37 (.agg (KC t k)) []).run Yba.prog w = .ok none w := by rw [run_findKey_eq w wide37]; simp [Instr.findAsking]
  simp [Instr.mapUpdate, run_underlying Yba.underlying43, MapKept.run_getObj_map hm, key_check false t k ht hk, hf, MapKept.run_setObj_map _ hm, Result.andThen, setBlock]

theorem run_look_empty {w : World} {m : Nat} (hm : w.heap[m]? = some (.map #[] 0)) (t : ByteArray) (k : Int) (ht : t.size ≤ maxLen) (hk : (Lit.int .u8 k).wf = true) :
    (Instr.lookup 43 (.map (some m)) (.agg (KC t k)) true).run Yba.prog w = .ok (.tuple #[.pointer none, .bool false]) w := by
  have hf : (Instr.findKey 37 (.agg (KC t k)) []).run Yba.prog w = .ok none w := by rw [run_findKey_eq w wide37]; simp [Instr.findAsking]
  simp [Instr.lookup, run_underlying Yba.underlying43, MapKept.run_getObj_map hm, key_check true t k ht hk, hf, Result.andThen, Yba.zeroValue44]

theorem run_look_one {w : World} {m : Nat} {t' : ByteArray} {k' : Int} {v : Value} (hm : w.heap[m]? = some (.map #[{ key := .agg (KC t' k'), val := v, born := 0 }] 1)) (t : ByteArray) (k : Int) (ht : t.size ≤ maxLen) (hk : (Lit.int .u8 k).wf = true) (ht' : t'.size ≤ maxLen) (hk' : (Lit.int .u8 k').wf = true)
    (ok : Bool) : (Instr.lookup 43 (.map (some m)) (.agg (KC t k)) ok).run Yba.prog w =
      .ok (if ok then .tuple #[if sameKey t t' k k' then v else .pointer none, .bool (sameKey t t' k k')] else if sameKey t t' k k' then v else .pointer none) w := by
  have he := key_equal t t' k k' ht ht' hk hk' w
  cases hsk : sameKey t t' k k' with
  | true =>
    rw [hsk] at he
    have hf : (Instr.findKey 37 (.agg (KC t k)) [{ key := .agg (KC t' k'), val := v, born := 0 }]).run Yba.prog w = .ok (some (0, v)) w := by rw [run_findKey_eq w wide37]; simp [Instr.findAsking, he]
    simp [Instr.lookup, run_underlying Yba.underlying43, MapKept.run_getObj_map hm, key_check false t k ht hk, hf, Result.andThen]
  | false =>
    rw [hsk] at he
    have hf : (Instr.findKey 37 (.agg (KC t k)) [{ key := .agg (KC t' k'), val := v, born := 0 }]).run Yba.prog w = .ok none w := by rw [run_findKey_eq w wide37]; simp [Instr.findAsking, he]
    simp [Instr.lookup, run_underlying Yba.underlying43, MapKept.run_getObj_map hm, key_check false t k ht hk, hf, Result.andThen, Yba.zeroValue44]

theorem run_len_map {w : World} {m n : Nat} {es : Array MapEntry} (hm : w.heap[m]? = some (.map es n)) : (Builtin.len_ #[43] 3 #[.map (some m)]).run Yba.prog w = .ok (.int .i64 (es.size : Int)) w := by
  simp [Builtin.len_, run_underlying Yba.underlying43, MapKept.run_getObj_map hm, Result.andThen]
  rfl

end Go.Proofs.Ybulkdpjq
