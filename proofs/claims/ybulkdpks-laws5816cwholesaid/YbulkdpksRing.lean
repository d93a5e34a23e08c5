/-
  '(*ring).push' in one contract.
-/
import Derived.Test.YbulkdpksRows
import Derived.WalkKit
import Derived.ProofKit
import Derived.OpenShut
import Derived.WalkLawsBesides
import Derived.BigQuiet
import Derived.Laws.BitsAllLaws
import Derived.Laws.StructEq
import Derived.Outline
import Derived.Test.YbulkdpksRow
import Derived.Test.YbulkdpksPushG
import Derived.Test.YbulkdpksGrow
import Derived.Test.YbulkdpksGrow0
namespace Go.Proofs.Ybulkdpks
open Go.ChangeShapes Go.WideShapes Go.ChangeAt Go.RowKit
open Go.ChangeMaps (setBlock)
set_option linter.unusedVariables false

theorem Kept.drewN {S : Nat → Prop} {a w : World} (h : Kept S a w) (n : Nat) : Kept S a (w.drewN n) := ⟨h.os, h.tape, h.output, h.size, h.block⟩
theorem Kept.setRow {S : Nat → Prop} {a w : World} (h : Kept S a w) {g : Nat} (hp : S g ∨ a.heap.size ≤ g) (cs : Array Value) : Kept S a (w.setRow g cs) :=
  ⟨h.os, h.tape, h.output, by rw [setRow_size]; exact h.size, fun k hk hs => (setRow_other _ _ _ _ (by intro e; subst e; rcases hp with hp | hp; exact hs hp; omega)).trans (h.block k hk hs)⟩
theorem hp_drewN (w : World) (n b : Nat) : (w.drewN n).heap[b]? = w.heap[b]? := rfl

/-- What a push leaves: the crew's ring, with the job t behind the k that were there. -/
def Pushed (cb bb L h k : Nat) (f : Nat → Int) (t mu room aw done : Int) (slow : Bool) (pk : Value) (w w' : World) : Prop :=
  ∃ (bb' L' h' : Nat) (g : Nat → Int), w'.heap[cb]? = some (.cells (crewC mu slow room aw done (h' : Int) ((k + 1 : Nat) : Int) (.slice (some ⟨bb', 0, none⟩) L' L') pk) 62) ∧ w'.heap[bb']? = some (.cells (jobs g L').toArray 32) ∧
    Kept (fun x => x = cb ∨ x = bb) w w' ∧ (bb' = bb ∨ w.heap.size ≤ bb') ∧ Row L' h' (k + 1) ∧ (∀ i, i < k → g ((h' + i) % L') = f ((h + i) % L)) ∧ g ((h' + k) % L') = t

/-- The full row grown to M places. -/
def Grown63 (cb nb M k : Nat) (g0 : Nat → Int) (t mu room aw done : Int) (slow : Bool) (pk : Value) (w w2 : World) : Prop :=
  w2.heap[cb]? = some (.cells (crewC mu slow room aw done 0 (k : Int) (.slice (some ⟨nb, 0, none⟩) M M) pk) 62) ∧ w2.heap[nb]? = some (.cells (jobs g0 M).toArray 32) ∧ w2.heap[w.heap.size]? = some (.cells #[.int .i64 t, .pointer none] 32) ∧ Kept (fun x => x = cb) w w2

theorem push_grown (cb bb nb L M e h k : Nat) (f g0 : Nat → Int) (t mu room aw done : Int) (slow : Bool) (pk : Value) (w : World) (hk : k ≤ 255) (hkL : k = L) (hM : M = 2 ^ e) (e3 : 3 ≤ e) (e9 : e ≤ 9) (hkM : k < M)
    (hC : w.heap[cb]? = some (.cells (crewC mu slow room aw done h k (.slice (some ⟨bb, 0, none⟩) L L) pk) 62)) (hnb : w.heap.size < nb) (hg : ∀ i, i < k → g0 i = f ((h + i) % L))
    (HG : ∀ q, Calls Yba.prog 63 #[.pointer (some ⟨cb, 6, none⟩)] ((w.alloc (.cells #[.int .i64 t, .pointer none] 32)).drewN q) fun e w' => e = .returned (.tuple #[]) ∧ Grown63 cb nb M k g0 t mu room aw done slow pk w w') :
    Calls Yba.prog 51 #[.pointer (some ⟨cb, 6, none⟩), .agg #[.int .i64 t, .pointer none]] w fun e w' => e = .returned (.tuple #[]) ∧ Pushed cb bb L h k f t mu room aw done slow pk w w' := by
  have hM9 : M ≤ 512 := by rw [hM]; exact Nat.le_trans (Nat.pow_le_pow_right (by decide) e9) (by decide)
  have hcb := lt_of_block hC
  have hp : bits .and .i64 (0 + (k : Int)) ((M : Int) - 1) = (k : Int) := by
    rw [Int.zero_add, ring_mod e k M hM e9 (by omega), Nat.mod_eq_of_lt hkM]
  refine (push_grow cb bb nb L M k (k : Int) t w (Grown63 cb nb M k g0 t mu room aw done slow pk w) (by omega) (by omega) hM9 (by omega) (by omega) hp hkM (cell_at hC rfl) (cell_at hC rfl) hcb (by omega) (by omega) HG ?_).mono ?_
  · rintro w2 ⟨r1, r2, r3, r4⟩
    exact ⟨⟨cell_at r1 rfl, cell_at r1 rfl, cell_at r1 rfl, cell_at r3 rfl, cell_at r3 rfl, ⟨_, cell_at r2 (by rw [List.getElem?_toArray, jobs_get _ _ _ (by omega)])⟩, ⟨_, cell_at r2 (by rw [List.getElem?_toArray, jobs_get _ _ _ (by omega)])⟩, frozen_at r2, frozen_at r2⟩, frozen_at r1⟩
  · rintro e w' ⟨rfl, w2, q, ⟨r1, r2, r3, r4⟩, rfl⟩
    refine ⟨rfl, nb, M, 0, fun q => if q = k then t else g0 q, ?_, ?_, ?_, Or.inr (by omega), Or.inr ⟨_, e3, e9, hM, by omega, by omega⟩, ?_, ?_⟩
    · rw [hp_drewN, hp_setCell_eq (((hp_setCell_ne (by simp; omega)).trans (hp_setCell_ne (by simp; omega))).trans r1)]
      rfl
    · rw [hp_drewN, hp_setCell_ne (by simp; omega), hp_setCell_eq (hp_setCell_eq r2), jobs_set _ _ _ _ hkM]
    · exact ((((r4.mono (fun _ => Or.inl)).setCell (Or.inr (by simp; omega)) _).setCell (Or.inr (by simp; omega)) _).setCell (Or.inl (Or.inl rfl)) _).drewN _
    · intro i hi
      rw [Nat.zero_add, Nat.mod_eq_of_lt (by omega), ← hg i hi]
      exact if_neg (by omega)
    · rw [Nat.zero_add, Nat.mod_eq_of_lt hkM]
      exact if_pos rfl

/-- '(*ring).push' -/
theorem push_ring (cb bb L h k : Nat) (f : Nat → Int) (t mu room aw done : Int) (slow : Bool) (pk : Value) (w : World) (hk : k ≤ 255) (r : Row L h k) (hne : cb ≠ bb)
    (hC : w.heap[cb]? = some (.cells (crewC mu slow room aw done h k (.slice (some ⟨bb, 0, none⟩) L L) pk) 62)) (hB : w.heap[bb]? = some (.cells (jobs f L).toArray 32)) :
    Calls Yba.prog 51 #[.pointer (some ⟨cb, 6, none⟩), .agg #[.int .i64 t, .pointer none]] w fun e w' => e = .returned (.tuple #[]) ∧ Pushed cb bb L h k f t mu room aw done slow pk w w' := by
  have hcb := lt_of_block hC
  have hbb := lt_of_block hB
  have hC1 : ∀ q, ((w.alloc (.cells #[.int .i64 t, .pointer none] 32)).drewN q).heap[cb]? = some (.cells (crewC mu slow room aw done h k (.slice (some ⟨bb, 0, none⟩) L L) pk) 62) := fun q => (hp_alloc_lt hcb).trans hC
  have hB1 : ∀ q, ((w.alloc (.cells #[.int .i64 t, .pointer none] 32)).drewN q).heap[bb]? = some (.cells (jobs f L).toArray 32) := fun q => (hp_alloc_lt hbb).trans hB
  have hJ1 : ∀ q, ((w.alloc (.cells #[.int .i64 t, .pointer none] 32)).drewN q).heap[w.heap.size]? = some (.cells #[.int .i64 t, .pointer none] 32) := fun q => hp_alloc_eq _ _
  have hs1 : ∀ q, ((w.alloc (.cells #[.int .i64 t, .pointer none] 32)).drewN q).heap.size = w.heap.size + 1 := fun q => by simp
  have hk1 : ∀ q, Kept (fun x => x = cb) w ((w.alloc (.cells #[.int .i64 t, .pointer none] 32)).drewN q) := fun q => ((Kept.refl _ _).alloc _).drewN _
  rcases r with ⟨rfl, rfl, rfl⟩ | ⟨e, e3, e9, hL, hh, hkL⟩
  · refine push_grown cb bb (w.heap.size + 1) 0 8 3 0 0 f (fun _ => 0) t mu room aw done slow pk w (by omega) rfl rfl (by omega) (by omega) (by omega) hC (by omega) (fun i hi => by omega) (fun q => ?_)
    refine (grow_zero cb bb _ (cell_at (hC1 q) rfl) (cell_at (hC1 q) rfl) (frozen_at (hC1 q)) (frozen_at (hC1 q)) (lt_of_block (hC1 q))).mono ?_
    rintro e w' ⟨rfl, q', rfl⟩
    rw [hs1]
    refine ⟨rfl, ?_, ?_, ?_, ?_⟩
    · rw [hp_drewN, hp_setCell_eq (hp_setCell_eq ((hp_alloc_lt (by rw [hs1]; omega)).trans (hC1 q)))]
      rfl
    · rw [hp_drewN, hp_setCell_ne (by simp; omega), hp_setCell_ne (by simp; omega)]
      exact hp_alloc_at (by rw [hs1])
    · rw [hp_drewN, hp_setCell_ne (by simp; omega), hp_setCell_ne (by simp; omega)]
      exact (hp_alloc_lt (by rw [hs1]; omega)).trans (hJ1 q)
    · exact ((((hk1 q).alloc _).setCell (Or.inl rfl) _).setCell (Or.inl rfl) _).drewN _
  · have hL9 : L ≤ 512 := by rw [hL]; exact Nat.le_trans (Nat.pow_le_pow_right (by decide) e9) (by decide)
    have hL3 : 8 ≤ L := by rw [hL]; exact Nat.le_trans (by decide) (Nat.pow_le_pow_right (n := 2) (by decide) e3)
    by_cases hkk : k = L
    · have he8 : e ≤ 8 := by
        rcases Nat.lt_or_ge 8 e with h9 | h9
        · have : 2 ^ 9 ≤ L := by rw [hL]; exact Nat.pow_le_pow_right (by decide) h9
          omega
        · exact h9
      have hM : 2 * L = 2 ^ (e + 1) := by rw [hL, Nat.pow_succ, Nat.mul_comm]
      refine push_grown cb bb (w.heap.size + 1) L (2 * L) (e + 1) h k f (fun p => if p < L - h then f (p + h) else if p < L then f (p + h - L) else 0) t mu room aw done slow pk w (by omega) hkk hM (by omega) (by omega) (by omega) hC (by omega) (fun i hi => ?_) (fun q => ?_)
      · by_cases h1 : i < L - h
        · rw [if_pos h1, Nat.mod_eq_of_lt (by omega), Nat.add_comm]
        · rw [if_neg h1, if_pos (by omega), Nat.mod_eq_sub_mod (by omega), Nat.mod_eq_of_lt (by omega), Nat.add_comm]
      refine (grow_pos cb bb L h (2 * L) f _ (by omega) hh (by omega) (hB1 q) (cell_at (hC1 q) rfl) (cell_at (hC1 q) rfl) (frozen_at (hC1 q)) (frozen_at (hC1 q)) (lt_of_block (hC1 q))).mono ?_
      rintro e w' ⟨rfl, q', rfl⟩
      rw [hs1]
      refine ⟨rfl, ?_, ?_, ?_, ?_⟩
      · rw [hp_drewN, hp_setCell_eq (hp_setCell_eq ((setRow_other _ _ _ _ (by omega)).trans ((hp_alloc_lt (by rw [hs1]; omega)).trans (hC1 q))))]
        rfl
      · rw [hp_drewN, hp_setCell_ne (by simp; omega), hp_setCell_ne (by simp; omega)]
        exact setRow_heap _ _ _ _ _ _ (hp_alloc_at (by rw [hs1]))
      · rw [hp_drewN, hp_setCell_ne (by simp; omega), hp_setCell_ne (by simp; omega), setRow_other _ _ _ _ (by omega)]
        exact (hp_alloc_lt (by rw [hs1]; omega)).trans (hJ1 q)
      · exact (((((hk1 q).alloc _).setRow (Or.inr (by omega)) _).setCell (Or.inl rfl) _).setCell (Or.inl rfl) _).drewN _
    · have hkL' : k < L := by omega
      have hpL : (h + k) % L < L := Nat.mod_lt _ (by omega)
      refine (push_room cb bb L ((h + k) % L) h k t w (by omega) (by omega) (by omega) (by omega) hL9 (by simp; omega) (by omega) (by rw [← Int.natCast_add]; exact ring_mod e (h + k) L hL e9 (by omega)) hpL (cell_at hC rfl) (cell_at hC rfl) (cell_at hC rfl)
        _ _ (cell_at hB (by rw [List.getElem?_toArray, jobs_get _ _ _ (by omega)])) (cell_at hB (by rw [List.getElem?_toArray, jobs_get _ _ _ (by omega)])) (frozen_at hC) (fun o => frozen_at hB) hcb hbb hne).mono ?_
      rintro e' w' ⟨rfl, q, rfl⟩
      refine ⟨rfl, bb, L, h, fun q => if q = (h + k) % L then t else f q, ?_, ?_, ?_, Or.inl rfl, Or.inr ⟨e, e3, e9, hL, hh, by omega⟩, ?_, if_pos rfl⟩
      · rw [hp_drewN, hp_setCell_eq (((hp_setCell_ne (by simp; omega)).trans (hp_setCell_ne (by simp; omega))).trans ((hp_alloc_lt hcb).trans hC))]
        rfl
      · rw [hp_drewN, hp_setCell_ne (by simp; omega), hp_setCell_eq (hp_setCell_eq ((hp_alloc_lt hbb).trans hB)), jobs_set _ _ _ _ hpL]
      · exact (((((Kept.refl _ _).alloc _).setCell (Or.inl (Or.inr rfl)) _).setCell (Or.inl (Or.inr rfl)) _).setCell (Or.inl (Or.inl rfl)) _).drewN _
      · intro i hi
        refine if_neg (fun he => ?_)
        have h1 : h + i < 2 * L := by omega
        have h2 : h + k < 2 * L := by omega
        rcases Nat.lt_or_ge (h + i) L with a | a <;> rcases Nat.lt_or_ge (h + k) L with b | b
        · rw [Nat.mod_eq_of_lt a, Nat.mod_eq_of_lt b] at he
          omega
        · rw [Nat.mod_eq_of_lt a, Nat.mod_eq_sub_mod b, Nat.mod_eq_of_lt (by omega)] at he
          omega
        · omega
        · rw [Nat.mod_eq_sub_mod a, Nat.mod_eq_sub_mod b, Nat.mod_eq_of_lt (a := h + i - L) (by omega), Nat.mod_eq_of_lt (a := h + k - L) (by omega)] at he
          omega
end Go.Proofs.Ybulkdpks
