/-
  What the law reads back: two times compared, the map asked, its length.
-/
import Derived.Test.YbulkdphmRows
import Derived.WalkKit
import Derived.ProofKit
import Derived.OpenShut
import Derived.WalkLawsBesides
import Derived.BigQuiet
import Derived.Deep.RegionWith
import Derived.Deep.OwnRows
import Derived.Laws.StructEq
import Derived.Test.YbulkdphmState
namespace Go.Proofs.Ybulkdphm
open Go.ChangeShapes Go.WideShapes Go.ChangeAt Go.RowKit
open Go.ChangeMaps (setBlock)
set_option linter.unusedVariables false

theorem fields59 : (Yba.prog.fieldsOf 59).toList = [{ name := "wall", type := 46, offset := 0, embedded := false, tag := "", pkgPath := "time", byteOffset := 0 }, { name := "ext", type := 2, offset := 1, embedded := false, tag := "", pkgPath := "time", byteOffset := 8 }, { name := "loc", type := 57, offset := 2, embedded := false, tag := "", pkgPath := "time", byteOffset := 16 }] := by kernel_rfl
theorem und59 : Yba.prog.underlying 59 = some (.struct (Yba.prog.fieldsOf 59)) := by kernel_rfl
theorem held59 : Yba.prog.stoodInHeld 59 = false := by kernel_rfl
theorem guard59 : Yba.prog.eqGuardType Yba.prog.depth 59 = false := by kernel_rfl

theorem nilptr (d : Nat) (w : World) : (Op.equalIn (d + 1) 57 (.pointer none) (.pointer none)).run Yba.prog w = .ok true w := by
  simp [Op.equalIn, run_underlying Yba.underlying57]

theorem equal59 (x y : Int) (w : World) : (Op.equalIn 10000 59 (.agg #[.int .u64 x, .int .i64 y, .pointer none]) (.agg #[.int .u64 x, .int .i64 y, .pointer none])).run Yba.prog w = .ok true w := by
  have h := run_equalIn_struct (P := Yba.prog) w 9999 59 #[.int .u64 x, .int .i64 y, .pointer none] #[.int .u64 x, .int .i64 y, .pointer none] und59 held59
  refine Eq.trans h ?_
  have e1 := run_equalIn_int (P := Yba.prog) w 9998 46 .u64 _ x x Yba.underlying46
  have e2 := run_equalIn_int (P := Yba.prog) w 9998 2 .i64 _ y y Yba.underlying2
  have e3 := nilptr 9998 w
  have p1 : ∀ w, (part 46 #[.int .u64 x, .int .i64 y, .pointer none] 0).run Yba.prog w = .ok (.int .u64 x) w := fun _ => by kernel_rfl
  have p2 : ∀ w, (part 2 #[.int .u64 x, .int .i64 y, .pointer none] 1).run Yba.prog w = .ok (.int .i64 y) w := fun _ => by kernel_rfl
  have p3 : ∀ w, (part 57 #[.int .u64 x, .int .i64 y, .pointer none] 2).run Yba.prog w = .ok (.pointer none) w := fun _ => by kernel_rfl
  rw [fields59]
  simp [Op.eqFields, p1, p2, p3, e1, e2, e3]

theorem neq59 (x y : Int) (w : World) : (binOp .neq 59 (.agg #[.int .u64 x, .int .i64 y, .pointer none]) (.agg #[.int .u64 x, .int .i64 y, .pointer none])).run Yba.prog w = .ok (.bool false) w := by
  rw [run_neq_struct, equal59]; rfl

theorem Af.drewN {ob rb mb ch db sb k : Nat} {n x y wg mu : Int} {fail : Bool} {L : Value} {M : Array MapEntry} {m : Nat} {w wr : World} (h : Af ob rb mb ch db sb k n x y wg mu fail L M m w wr) (q : Nat) :
    Af ob rb mb ch db sb k n x y wg mu fail L M m w (wr.drewN q) :=
  ⟨⟨h.below.os, h.below.tape, h.below.output, h.below.size, h.below.block⟩, h.recv, h.map, h.row, h.socks, h.dl, h.sock⟩

theorem rowAt_lt {c k q : Nat} (h : q < k) : rowAt c k q = .pointer (some ⟨c + q, 0, none⟩) := by simp [rowAt, h]

/-- A socket of the others is in the map, whether or not one more has come behind them. -/
theorem Af.look {ob rb mb ch db sb k : Nat} {n x y wg mu : Int} {fail : Bool} {L : Value} {M : Array MapEntry} {m : Nat} {w wr : World} (h : Af ob rb mb ch db sb k n x y wg mu fail L M m w wr) (hs : ob + 1 + k ≤ sb)
    (hM : M = ents (ob + 1) k ∨ M = (ents (ob + 1) k).push { key := SK sb, val := .bool true, born := k }) {q : Nat} (hq : q < k) :
    (Instr.lookup 56 (.map (some mb)) (SK (ob + 1 + q)) true).run Yba.prog wr = .ok (.tuple #[.bool true, .bool true]) wr := by
  obtain ⟨pre, post, he, hpre⟩ := ents_split (c := ob + 1) hq
  have hb : IsSock wr (ob + 1 + q) := ⟨_, h.socks q hq⟩
  have hp : ∀ e ∈ pre, ∃ c, e.key = SK c ∧ ob + 1 + q ≠ c ∧ IsSock wr c := fun e hee => by
    obtain ⟨i, hi, rfl⟩ := hpre e hee
    exact ⟨ob + 1 + i, rfl, by omega, _, h.socks i (by omega)⟩
  have hk : ∀ e ∈ (ents (ob + 1) k).toList, ∃ c, e.key = SK c := fun e hee => by
    obtain ⟨i, hi, rfl⟩ := ents_mem hee
    exact ⟨ob + 1 + i, rfl⟩
  rcases hM with rfl | rfl
  · exact run_look_hit (k := q) h.map he hk hb hp
  · refine run_look_hit (k := q) (pre := pre) (post := post ++ [{ key := SK sb, val := .bool true, born := k }]) h.map (by rw [Array.toList_push, he]; simp [ent]) (fun e hee => ?_) hb hp
    rw [Array.toList_push, List.mem_append] at hee
    rcases hee with hee | hee
    · exact hk e hee
    · simp at hee; subst hee; exact ⟨sb, rfl⟩

theorem Af.look_in {ob rb mb ch db sb k : Nat} {n x y wg mu : Int} {fail : Bool} {L : Value} {m : Nat} {w wr : World} (h : Af ob rb mb ch db sb k n x y wg mu fail L ((ents (ob + 1) k).push { key := SK sb, val := .bool true, born := k }) m w wr) (hs : ob + 1 + k ≤ sb) :
    (Instr.lookup 56 (.map (some mb)) (SK sb) true).run Yba.prog wr = .ok (.tuple #[.bool true, .bool true]) wr := by
  have hk := h.keys hs
  refine run_look_hit (k := k) (pre := (ents (ob + 1) k).toList) (post := []) h.map (by rw [Array.toList_push]) (fun e hee => ?_) ⟨_, h.sock⟩ hk
  rw [Array.toList_push, List.mem_append] at hee
  rcases hee with hee | hee
  · obtain ⟨c, hc, _⟩ := hk e hee
    exact ⟨c, hc⟩
  · simp at hee; subst hee; exact ⟨sb, rfl⟩

theorem Af.look_out {ob rb mb ch db sb k : Nat} {n x y wg mu : Int} {fail : Bool} {L : Value} {m : Nat} {w wr : World} (h : Af ob rb mb ch db sb k n x y wg mu fail L (ents (ob + 1) k) m w wr) (hs : ob + 1 + k ≤ sb) :
    (Instr.lookup 56 (.map (some mb)) (SK sb) true).run Yba.prog wr = .ok (.tuple #[.bool false, .bool false]) wr :=
  run_look_miss h.map ⟨_, h.sock⟩ (h.keys hs)

theorem ents_size (c k : Nat) : (ents c k).size = k := by simp [ents]

theorem run_len_map {w : World} {m n : Nat} {es : Array MapEntry} (hm : w.heap[m]? = some (.map es n)) : (Builtin.len_ #[56] 3 #[.map (some m)]).run Yba.prog w = .ok (.int .i64 (es.size : Int)) w := by
  simp [Builtin.len_, run_underlying Yba.underlying56, MapKept.run_getObj_map hm, Result.andThen]
  rfl

theorem head3 (a b c : Value) (Z : Array Value) : (#[a, b, c] ++ Z)[0]? = some a ∧ (#[a, b, c] ++ Z)[1]? = some b ∧ (#[a, b, c] ++ Z)[2]? = some c := by
  refine ⟨?_, ?_, ?_⟩ <;> (rw [Array.getElem?_append_left (by simp)]; rfl)

theorem time_zero {d x y : Int} (hx : x = d % 1000000000) (hy : y = d / 1000000000) (hd : ¬ d = 0) : (x == 0 && y == 0) = false := by
  rw [Bool.and_eq_false_iff]
  by_cases h : x = 0
  · right
    simp
    omega
  · left
    simp [h]

end Go.Proofs.Ybulkdphm
