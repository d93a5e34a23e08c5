/-
  The offer in one contract.
-/
import Derived.Test.YbulkdpksRows
import Derived.WalkKit
import Derived.ProofKit
import Derived.OpenShut
import Derived.WalkLawsBesides
import Derived.BigQuiet
import Derived.Laws.BitsAllLaws
import Derived.Laws.StructEq
import Derived.Outline
import Derived.Test.YbulkdpksPool
namespace Go.Proofs.Ybulkdpks
open Go.ChangeShapes Go.WideShapes Go.ChangeAt Go.RowKit
open Go.ChangeMaps (setBlock)
set_option linter.unusedVariables false

/-- The parked workers' cells, the workers' cells, behind the offer. -/
def pkA (B np : Nat) (woke : Bool) (i : Nat) : Value := if (woke && (i + 1 == np)) = true then .pointer none else .pointer (some ⟨B + i, 0, none⟩)
def pkB (np : Nat) (woke : Bool) (i : Nat) : Value := if (woke && (i + 1 == np)) = true then .int .u64 0 else .int .u64 (i : Int)
def wkC (np : Nat) (done : Int) (woke : Bool) (i : Nat) : Array Value :=
  if (woke && (i + 1 == np)) = true then #[.int .u64 0, .int .u32 0, .bool false, .int .u64 done] else #[.int .u64 4294967296, .int .u32 0, .bool false, .int .u64 0]
theorem pkA_false (B np i : Nat) : pkA B np false i = .pointer (some ⟨B + i, 0, none⟩) := rfl
theorem pkB_false (np i : Nat) : pkB np false i = .int .u64 (i : Int) := rfl
theorem wkC_false (np : Nat) (done : Int) (i : Nat) : wkC np done false i = #[.int .u64 4294967296, .int .u32 0, .bool false, .int .u64 0] := rfl

/-- What lies in memory when the task is offered. -/
structure Start (qb cb bb pb B L h k np : Nat) (f : Nat → Int) (room aw done : Int) (slow : Bool) (w : World) : Prop where
  o1 : bb < pb
  o2 : pb < B
  o3 : B + np ≤ cb
  o4 : cb < qb
  np1 : np ≤ 255
  k1 : k ≤ 255
  a0 : 0 ≤ aw
  a1 : aw ≤ 255
  r0 : -9223372036854775808 ≤ room
  r1 : room ≤ 9223372036854775807
  row : Row L h k
  pool : w.cell? ⟨qb, 4, none⟩ = some (.pointer (some ⟨cb, 0, none⟩))
  poolLt : qb < w.heap.size
  crew : w.heap[cb]? = some (.cells (crewC 0 slow room aw done h k (.slice (some ⟨bb, 0, none⟩) L L) (.slice (some ⟨pb, 0, none⟩) np np)) 62)
  buf : w.heap[bb]? = some (.cells (jobs f L).toArray 32)
  parked : w.heap[pb]? = some (.cells (pairs (pkA B np false) (pkB np false) np).toArray 49)
  work : ∀ i, i < np → w.heap[B + i]? = some (.cells (wkC np done false i) 46)

/-- What lies there behind the offer. -/
structure Offered (qb cb bb pb B L h k np : Nat) (f : Nat → Int) (t room aw done : Int) (slow acc woke : Bool) (w w' : World) : Prop where
  ring : ∃ (bb' L' h' : Nat) (g : Nat → Int), w'.heap[cb]? = some (.cells (crewC 0 slow (if acc = true then room - 1 else room) (if woke = true then 1 else aw) done (h' : Int) ((if acc = true then k + 1 else k : Nat) : Int) (.slice (some ⟨bb', 0, none⟩) L' L') (.slice (some ⟨pb, 0, none⟩) (if woke = true then np - 1 else np) np)) 62) ∧
    w'.heap[bb']? = some (.cells (jobs g L').toArray 32) ∧ Row L' h' (if acc = true then k + 1 else k) ∧ (∀ i, i < k → g ((h' + i) % L') = f ((h + i) % L)) ∧ (acc = true → g ((h' + k) % L') = t) ∧ (acc = false → h' = h ∧ L' = L)
  parked : w'.heap[pb]? = some (.cells (pairs (pkA B np woke) (pkB np woke) np).toArray 49)
  work : ∀ i, i < np → w'.heap[B + i]? = some (.cells (wkC np done woke i) 46)
  kept : Kept (fun x => x = cb ∨ x = bb ∨ x = pb ∨ (B ≤ x ∧ x < B + np)) w w'

theorem Start.refused {qb cb bb pb B L h k np : Nat} {f : Nat → Int} {t room aw done : Int} {slow : Bool} {w w' : World} (s : Start qb cb bb pb B L h k np f room aw done slow w)
    (hC : w'.heap[cb]? = some (.cells (crewC 0 slow room aw done h k (.slice (some ⟨bb, 0, none⟩) L L) (.slice (some ⟨pb, 0, none⟩) np np)) 62)) (hK : Kept (fun x => x = cb) w w') :
    Offered qb cb bb pb B L h k np f t room aw done slow false false w w' := by
  have := s.o1
  have := s.o2
  have := s.o3
  refine ⟨⟨bb, L, h, f, hC, (hK.block bb (lt_of_block s.buf) (by omega)).trans s.buf, s.row, fun _ _ => rfl, by simp, fun _ => ⟨rfl, rfl⟩⟩, (hK.block pb (lt_of_block s.parked) (by omega)).trans s.parked, fun i hi => (hK.block _ (lt_of_block (s.work i hi)) (by omega)).trans (s.work i hi), hK.mono (fun _ => Or.inl)⟩

/-- Taken; nobody is woken. -/
theorem offered_calm {qb cb bb pb B L h k np : Nat} {f : Nat → Int} {t room aw done : Int} {w : World} (s : Start qb cb bb pb B L h k np f room aw done false w) (hr : 0 < room) (hf : aw + np - k ≠ 0) (hc : 0 < aw ∨ np = 0) :
    Calls Yba.prog 8 #[.pointer (some ⟨qb, 0, none⟩), .int .i64 t] w fun e w' => e = .returned (.tuple #[.bool true, .bool false]) ∧ Offered qb cb bb pb B L h k np f t room aw done false true false w w' := by
  have o1 := s.o1
  have o2 := s.o2
  have o3 := s.o3
  have o4 := s.o4
  refine (pool_yes qb cb bb L h k np np f t room aw done (some ⟨pb, 0, none⟩) (fun w2 => w2) (fun w2 => w2.setCell ⟨cb, 0, none⟩ (.int .i32 0)) (.pointer none) w (by omega) s.poolLt s.pool hr s.r1 s.a0 s.a1 s.np1 s.k1 hf s.row (by omega) s.crew s.buf ?_).mono ?_
  · rintro w2 ⟨bb', L', h', g, x1, x2, x3, x4, x5, x6, x7⟩
    exact ⟨rouse_nil cb aw _ _ np np w2 s.a0 s.a1 s.np1 (by omega) hc (cell_at x1 rfl) (cell_at x1 rfl) (cell_at x1 rfl), cell_at x1 rfl, frozen_at x1, wake_nil _⟩
  · rintro e w' ⟨rfl, w2, ⟨bb', L', h', g, x1, x2, x3, x4, x5, x6, x7⟩, rfl⟩
    have hs := s.poolLt
    refine ⟨rfl, ⟨bb', L', h', g, crew_mu cb 1 0 _ _ _ _ _ _ _ _ _ x1, (hp_setCell_ne (by simp; omega)).trans x2, x5, x6, fun _ => x7, by simp⟩, ?_, ?_, ?_⟩
    · exact (hp_setCell_ne (by simp; omega)).trans ((x3.block pb (lt_of_block s.parked) (by omega)).trans s.parked)
    · exact fun i hi => (hp_setCell_ne (by simp; omega)).trans ((x3.block _ (lt_of_block (s.work i hi)) (by omega)).trans (s.work i hi))
    · exact (x3.mono (fun x hx => by omega)).setCell (Or.inl (Or.inl rfl)) _

theorem crew_roused (cb pb m c : Nat) (room aw done h n : Int) (buf pk : Value) (w : World) (hC : w.heap[cb]? = some (.cells (crewC 1 false room aw done h n buf pk) 62)) :
    (((w.setCell ⟨cb, 9, none⟩ (.slice (some ⟨pb, 0, none⟩) m c)).setCell ⟨cb, 4, none⟩ (.int .i64 1)).heap[cb]? = some (.cells (crewC 1 false room 1 done h n buf (.slice (some ⟨pb, 0, none⟩) m c)) 62)) := by
  rw [hp_setCell_eq (hp_setCell_eq hC)]
  rfl

/-- Taken; the last of the parked is woken. -/
theorem offered_wake {qb cb bb pb B L h k m : Nat} {f : Nat → Int} {t room done : Int} {w : World} (s : Start qb cb bb pb B L h k (m + 1) f room 0 done false w) (hr : 0 < room) (hf : (0 : Int) + (m + 1 : Nat) - k ≠ 0) :
    Calls Yba.prog 8 #[.pointer (some ⟨qb, 0, none⟩), .int .i64 t] w fun e w' => e = .returned (.tuple #[.bool true, .bool false]) ∧ Offered qb cb bb pb B L h k (m + 1) f t room 0 done false true true w w' := by
  have o1 := s.o1
  have o2 := s.o2
  have o3 := s.o3
  have o4 := s.o4
  have hm := s.np1
  have hs := s.poolLt
  refine (pool_yes qb cb bb L h k (m + 1) (m + 1) f t room 0 done (some ⟨pb, 0, none⟩)
    (fun w2 => ((((w2.setCell ⟨pb, m * 2, none⟩ (.pointer none)).setCell ⟨pb, m * 2 + 1, none⟩ (.int .u64 0)).setCell ⟨cb, 9, none⟩ (.slice (some ⟨pb, 0, none⟩) m (m + 1))).setCell ⟨cb, 4, none⟩ (.int .i64 1)).setCell ⟨B + m, 3, none⟩ (.int .u64 done))
    (fun w2 => ((((((w2.setCell ⟨pb, m * 2, none⟩ (.pointer none)).setCell ⟨pb, m * 2 + 1, none⟩ (.int .u64 0)).setCell ⟨cb, 9, none⟩ (.slice (some ⟨pb, 0, none⟩) m (m + 1))).setCell ⟨cb, 4, none⟩ (.int .i64 1)).setCell ⟨B + m, 3, none⟩ (.int .u64 done)).setCell ⟨cb, 0, none⟩ (.int .i32 0)).setCell ⟨B + m, 0, none⟩ (.int .u64 0))
    (.pointer (some ⟨B + m, 0, none⟩)) w (by omega) s.poolLt s.pool hr s.r1 s.a0 s.a1 s.np1 s.k1 hf s.row (by omega) s.crew s.buf ?_).mono ?_
  · rintro w2 ⟨bb', L', h', g, x1, x2, x3, x4, x5, x6, x7⟩
    have hP2 := (x3.block pb (lt_of_block s.parked) (by omega)).trans s.parked
    have hW2 := (x3.block _ (lt_of_block (s.work m (by omega))) (by omega)).trans (s.work m (by omega))
    rw [wkC_false] at hW2
    have hC3 := ((hp_setCell_ne (a := ⟨pb, m * 2 + 1, none⟩) (v := .int .u64 0) (w := w2.setCell ⟨pb, m * 2, none⟩ (.pointer none)) (b := cb) (by simp; omega)).trans (hp_setCell_ne (a := ⟨pb, m * 2, none⟩) (v := .pointer none) (by simp; omega))).trans x1
    have hC4 := crew_roused cb pb m (m + 1) _ _ _ _ _ _ _ _ hC3
    have hC5 := (hp_setCell_ne (a := ⟨B + m, 3, none⟩) (v := .int .u64 done) (by simp; omega)).trans hC4
    refine ⟨?_, cell_at hC5 rfl, frozen_at hC5, ?_⟩
    · refine rouse_some cb pb (B + m) m (m + 1) _ done (.int .u64 (m : Int)) w2 (by omega) (by omega) (by omega) (cell_at x1 rfl) (cell_at x1 rfl) (cell_at x1 rfl) (cell_at x1 rfl)
        (cell_at hP2 (pairs_even _ _ _ _ (by omega))) (cell_at hP2 (pairs_odd _ _ _ _ (by omega))) (cell_at hW2 rfl) (fun _ => frozen_at x1) (fun _ => frozen_at hP2) (fun _ => frozen_at hW2) (by omega) (by omega) (by omega)
    · have hW3 : ((((((w2.setCell ⟨pb, m * 2, none⟩ (.pointer none)).setCell ⟨pb, m * 2 + 1, none⟩ (.int .u64 0)).setCell ⟨cb, 9, none⟩ (.slice (some ⟨pb, 0, none⟩) m (m + 1))).setCell ⟨cb, 4, none⟩ (.int .i64 1)).setCell ⟨B + m, 3, none⟩ (.int .u64 done)).setCell ⟨cb, 0, none⟩ (.int .i32 0)).heap[B + m]? = some (.cells #[.int .u64 4294967296, .int .u32 0, .bool false, .int .u64 done] 46) := by
        rw [hp_setCell_ne (by simp; omega), hp_setCell_eq ((hp_setCell_ne (by simp; omega)).trans ((hp_setCell_ne (by simp; omega)).trans ((hp_setCell_ne (by simp; omega)).trans ((hp_setCell_ne (by simp; omega)).trans hW2))))]
        rfl
      exact wake_some (B + m) _ (cell_at hW3 rfl) (frozen_at hW3)
  · rintro e w' ⟨rfl, w2, ⟨bb', L', h', g, x1, x2, x3, x4, x5, x6, x7⟩, rfl⟩
    have hP2 := (x3.block pb (lt_of_block s.parked) (by omega)).trans s.parked
    have hW2 : ∀ i, i < m + 1 → w2.heap[B + i]? = some (.cells (wkC (m + 1) done false i) 46) := fun i hi => (x3.block _ (lt_of_block (s.work i hi)) (by omega)).trans (s.work i hi)
    have hC3 := ((hp_setCell_ne (a := ⟨pb, m * 2 + 1, none⟩) (v := .int .u64 0) (w := w2.setCell ⟨pb, m * 2, none⟩ (.pointer none)) (b := cb) (by simp; omega)).trans (hp_setCell_ne (a := ⟨pb, m * 2, none⟩) (v := .pointer none) (by simp; omega))).trans x1
    have hC4 := crew_roused cb pb m (m + 1) _ _ _ _ _ _ _ _ hC3
    have hC5 := (hp_setCell_ne (a := ⟨B + m, 3, none⟩) (v := .int .u64 done) (by simp; omega)).trans hC4
    refine ⟨rfl, ⟨bb', L', h', g, (hp_setCell_ne (by simp; omega)).trans (crew_mu cb 1 0 _ _ _ _ _ _ _ _ _ hC5), ?_, x5, x6, fun _ => x7, by simp⟩, ?_, ?_, ?_⟩
    · exact (hp_setCell_ne (by simp; omega)).trans ((hp_setCell_ne (by simp; omega)).trans ((hp_setCell_ne (by simp; omega)).trans ((hp_setCell_ne (by simp; omega)).trans ((hp_setCell_ne (by simp; omega)).trans ((hp_setCell_ne (by simp; omega)).trans ((hp_setCell_ne (by simp; omega)).trans x2))))))
    · rw [hp_setCell_ne (by simp; omega), hp_setCell_ne (by simp; omega), hp_setCell_ne (by simp; omega), hp_setCell_ne (by simp; omega), hp_setCell_ne (by simp; omega), hp_setCell_eq (hp_setCell_eq hP2), pairs_set _ _ _ _ _ _ (by omega)]
      rw [pairs_ext (fun p hp => ?_)]
      unfold pkA pkB
      by_cases hpm : p = m
      · simp [hpm]
      · simp [hpm]
    · intro i hi
      by_cases him : i = m
      · subst him
        rw [hp_setCell_eq ((hp_setCell_ne (by simp; omega)).trans (hp_setCell_eq ((hp_setCell_ne (by simp; omega)).trans ((hp_setCell_ne (by simp; omega)).trans ((hp_setCell_ne (by simp; omega)).trans ((hp_setCell_ne (by simp; omega)).trans (hW2 i hi)))))))]
        unfold wkC
        simp
      · refine ((hp_setCell_ne (by simp; omega)).trans ((hp_setCell_ne (by simp; omega)).trans ((hp_setCell_ne (by simp; omega)).trans ((hp_setCell_ne (by simp; omega)).trans ((hp_setCell_ne (by simp; omega)).trans ((hp_setCell_ne (by simp; omega)).trans ((hp_setCell_ne (by simp; omega)).trans (hW2 i hi)))))))).trans ?_
        unfold wkC
        simp [him]
    · have hk := x3.mono (T := fun x => x = cb ∨ x = bb ∨ x = pb ∨ (B ≤ x ∧ x < B + (m + 1))) (fun x hx => by omega)
      exact ((((((hk.setCell (Or.inl (by simp)) _).setCell (Or.inl (by simp)) _).setCell (Or.inl (by simp)) _).setCell (Or.inl (by simp)) _).setCell (Or.inl (by simp <;> omega)) _).setCell (Or.inl (by simp)) _).setCell (Or.inl (by simp <;> omega)) _

def accB (slow : Bool) (room aw : Int) (np k : Nat) : Bool := !slow && (decide (0 < room) && !(aw + np - k == 0))
def wokeB (slow : Bool) (room aw : Int) (np k : Nat) : Bool := accB slow room aw np k && ((aw == 0) && decide (0 < np))
def behindB (slow : Bool) (room aw : Int) (np k : Nat) : Bool := !slow && (!(accB slow room aw np k) && (decide (0 < room) && decide (0 < k)))

/-- '(*Pool).offer' in one contract. -/
theorem offered_any {qb cb bb pb B L h k np : Nat} {f : Nat → Int} {t room aw done : Int} {slow : Bool} {w : World} (s : Start qb cb bb pb B L h k np f room aw done slow w) :
    Calls Yba.prog 8 #[.pointer (some ⟨qb, 0, none⟩), .int .i64 t] w fun e w' => e = .returned (.tuple #[.bool (accB slow room aw np k), .bool (behindB slow room aw np k)]) ∧ Offered qb cb bb pb B L h k np f t room aw done slow (accB slow room aw np k) (wokeB slow room aw np k) w w' := by
  have o3 := s.o3
  have o4 := s.o4
  cases slow with
  | true =>
    refine (pool_slow qb cb room aw done h k t _ _ w (by omega) s.pool s.crew).mono ?_
    rintro e w' ⟨rfl, h1, h2⟩
    exact ⟨rfl, s.refused h1 h2⟩
  | false =>
    by_cases hno : room ≤ 0 ∨ aw + np - k = 0
    · have ea : accB false room aw np k = false := by
        unfold accB
        rcases hno with hno | hno
        · have : ¬ 0 < room := by omega
          simp [this]
        · simp [hno]
      have ew : wokeB false room aw np k = false := by unfold wokeB; rw [ea]; rfl
      have eb : behindB false room aw np k = (decide (0 < room) && decide (0 < (k : Int))) := by unfold behindB; rw [ea]; simp
      rw [ea, ew, eb]
      refine (pool_no qb cb np np room aw done h k t _ _ w (by omega) s.a0 s.a1 s.np1 (by omega) (by have := s.k1; omega) hno s.poolLt s.pool s.crew).mono ?_
      rintro e w' ⟨rfl, h1, h2⟩
      exact ⟨rfl, s.refused h1 h2⟩
    · have hr : 0 < room := by omega
      have hf : aw + np - k ≠ 0 := by omega
      have ea : accB false room aw np k = true := by unfold accB; simp [hr]; omega
      have eb : behindB false room aw np k = false := by unfold behindB; rw [ea]; rfl
      by_cases hc : 0 < aw ∨ np = 0
      · have ew : wokeB false room aw np k = false := by
          unfold wokeB
          rcases hc with hc | hc
          · have : ¬ aw = 0 := by omega
            simp [this]
          · simp [hc]
        rw [ea, ew, eb]
        exact offered_calm s hr hf hc
      · have ha := s.a0
        obtain rfl : aw = 0 := by omega
        obtain ⟨m, rfl⟩ : ∃ m, np = m + 1 := ⟨np - 1, by omega⟩
        have ew : wokeB false room 0 (m + 1) k = true := by unfold wokeB; rw [ea]; simp
        rw [ea, ew, eb]
        exact offered_wake s hr hf
end Go.Proofs.Ybulkdpks
