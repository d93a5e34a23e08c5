/-
  map[socket]bool whose keys are the law's own sockets.
-/
import Derived.Test.YbulkdphmRows
import Derived.WalkKit
import Derived.ProofKit
import Derived.OpenShut
import Derived.WalkLawsBesides
import Derived.BigQuiet
import Derived.Test.YbulkdphmHeap
namespace Go.Proofs.Ybulkdphm
open Go.ChangeShapes Go.WideShapes Go.ChangeAt Go.RowKit
open Go.ChangeMaps (setBlock)
set_option linter.unusedVariables false

/-! ### a map whose keys are sockets of the law's own -/
abbrev SK (b : Nat) : Value := .iface 36 (.pointer (some ⟨b, 0, none⟩))
def IsSock (w : World) (b : Nat) : Prop := ∃ C, w.heap[b]? = some (.cells C 39 (0, 0))

theorem info36 : (Yba.prog.info? 36).map (fun i => i.comparable) = some true := by kernel_rfl
theorem info39 : (Yba.prog.info? 39).map (fun i => i.size) = some 3 := by kernel_rfl

theorem eq_same (w : World) (b : Nat) : (Op.equal 72 (SK b) (SK b)).run Yba.prog w = .ok true w := by
  obtain ⟨i, hi, hc⟩ := Option.map_eq_some_iff.1 info36
  obtain ⟨j, hj, hs⟩ := Option.map_eq_some_iff.1 info39
  simp only [Op.equal, Op.maxDepth]
  exact run_equalIn_iface_ptr_same w 9998 ⟨b, 0, none⟩ Yba.underlying72 Yba.underlying36 hi hc hj

theorem eq_other {w : World} {b c : Nat} (hne : b ≠ c) (hb : IsSock w b) (hc' : IsSock w c) : (Op.equal 72 (SK b) (SK c)).run Yba.prog w = .ok false w := by
  obtain ⟨i, hi, hc⟩ := Option.map_eq_some_iff.1 info36
  obtain ⟨j, hj, hs⟩ := Option.map_eq_some_iff.1 info39
  obtain ⟨C, hC⟩ := hb
  obtain ⟨D, hD⟩ := hc'
  simp only [Op.equal, Op.maxDepth]
  exact run_equalIn_iface_ptr_other w 9998 (a := ⟨b, 0, none⟩) (b := ⟨c, 0, none⟩) Yba.underlying72 Yba.underlying36 hi hc hj (by omega) (fun e => hne (by injection e)) hC hD

theorem check_key (e : Bool) (w : World) (b : Nat) : (Instr.checkKey e 10000 72 (SK b)).run Yba.prog w = .ok () w := by
  obtain ⟨i, hi, hc⟩ := Option.map_eq_some_iff.1 info36
  have h1 : (Instr.checkKey e 9999 36 (.pointer (some ⟨b, 0, none⟩))).run Yba.prog w = .ok () w := by
    rw [Instr.checkKey]; simp [run_underlying Yba.underlying36]
  rw [Instr.checkKey]
  simp [run_underlying Yba.underlying72, typeInfo, hi, hc, h1]

theorem asking_miss {w : World} {b : Nat} (hb : IsSock w b) : ∀ (es : List MapEntry) (i : Nat), (∀ e ∈ es, ∃ c, e.key = SK c ∧ b ≠ c ∧ IsSock w c) →
    (Instr.findAsking 72 (SK b) es i).run Yba.prog w = .ok none w
  | [], _, _ => by simp [Instr.findAsking]
  | e :: es, i, h => by
    obtain ⟨c, hk, hne, hc⟩ := h e (by simp)
    have ih := asking_miss hb es (i + 1) (fun x hx => h x (by simp [hx]))
    rw [Instr.findAsking]
    simp [hk, eq_other hne hb hc, ih]

theorem asking_hit {w : World} {b : Nat} (hb : IsSock w b) (v : Value) (n : Nat) (post : List MapEntry) : ∀ (pre : List MapEntry) (i : Nat), (∀ e ∈ pre, ∃ c, e.key = SK c ∧ b ≠ c ∧ IsSock w c) →
    (Instr.findAsking 72 (SK b) (pre ++ { key := SK b, val := v, born := n } :: post) i).run Yba.prog w = .ok (some (i + pre.length, v)) w
  | [], i, _ => by
    rw [List.nil_append, Instr.findAsking]
    simp [eq_same]
  | e :: es, i, h => by
    obtain ⟨c, hk, hne, hc⟩ := h e (by simp)
    have ih := asking_hit hb v n post es (i + 1) (fun x hx => h x (by simp [hx]))
    rw [List.cons_append, Instr.findAsking]
    simp [hk, eq_other hne hb hc, ih]
    omega

theorem find_of_asking {w : World} {b : Nat} {es : List MapEntry} {r : Option (Nat × Value)} (hk : ∀ e ∈ es, ∃ c, e.key = SK c) (h : (Instr.findAsking 72 (SK b) es).run Yba.prog w = .ok r w) :
    (Instr.findKey 72 (SK b) es).run Yba.prog w = .ok r w := by
  cases es with
  | nil =>
    simp [Instr.findAsking] at h
    subst h
    simp [Instr.findKey, run_underlying Yba.underlying72, Instr.findNow]
  | cons e es =>
    obtain ⟨c, hc⟩ := hk e (by simp)
    have h1 : ∀ ms, Instr.findNow (.interface ms) (SK b) (e :: es) 0 = none := by intro ms; simp [Instr.findNow, Instr.sameNow]
    simp only [Instr.findKey, Sem.run_bind, run_underlying Yba.underlying72, Result.andThen_ok, h1]
    exact h

theorem run_put_new {w : World} {m b : Nat} {es : Array MapEntry} {n : Nat} (hm : w.heap[m]? = some (.map es n)) (hb : IsSock w b) (h : ∀ e ∈ es.toList, ∃ c, e.key = SK c ∧ b ≠ c ∧ IsSock w c) (v : Value) :
    (Instr.mapUpdate 56 (.map (some m)) (SK b) v).run Yba.prog w = .ok () (setBlock w m (.map (es.push { key := SK b, val := v, born := n }) (n + 1))) := by
  have hf := find_of_asking (b := b) (fun e he => let ⟨c, hc, _⟩ := h e he; ⟨c, hc⟩) (asking_miss hb es.toList 0 h)
  simp [Instr.mapUpdate, run_underlying Yba.underlying56, MapKept.run_getObj_map hm, check_key, hf, MapKept.run_setObj_map _ hm, Result.andThen, setBlock]

theorem run_look_miss {w : World} {m b : Nat} {es : Array MapEntry} {n : Nat} (hm : w.heap[m]? = some (.map es n)) (hb : IsSock w b) (h : ∀ e ∈ es.toList, ∃ c, e.key = SK c ∧ b ≠ c ∧ IsSock w c) :
    (Instr.lookup 56 (.map (some m)) (SK b) true).run Yba.prog w = .ok (.tuple #[.bool false, .bool false]) w := by
  have hf := find_of_asking (b := b) (fun e he => let ⟨c, hc, _⟩ := h e he; ⟨c, hc⟩) (asking_miss hb es.toList 0 h)
  simp [Instr.lookup, run_underlying Yba.underlying56, MapKept.run_getObj_map hm, check_key, hf, Result.andThen, Yba.zeroValue4]

theorem run_look_hit {w : World} {m b : Nat} {es : Array MapEntry} {n k : Nat} {pre post : List MapEntry} {v : Value} (hm : w.heap[m]? = some (.map es n)) (he : es.toList = pre ++ { key := SK b, val := v, born := k } :: post)
    (hk : ∀ e ∈ es.toList, ∃ c, e.key = SK c) (hb : IsSock w b) (h : ∀ e ∈ pre, ∃ c, e.key = SK c ∧ b ≠ c ∧ IsSock w c) :
    (Instr.lookup 56 (.map (some m)) (SK b) true).run Yba.prog w = .ok (.tuple #[v, .bool true]) w := by
  have h1 := asking_hit hb v k post pre 0 h
  rw [← he] at h1
  have hf := find_of_asking (b := b) hk h1
  simp [Instr.lookup, run_underlying Yba.underlying56, MapKept.run_getObj_map hm, check_key, hf, Result.andThen]

end Go.Proofs.Ybulkdphm
