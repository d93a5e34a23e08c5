/-
  zznext, next, element in one contract each.
-/
import Derived.Test.YbulkdphmDoorRows
import Derived.WalkKit
import Derived.ProofKit
import Derived.OpenShut
import Derived.WalkLawsBesides
import Derived.BigQuiet
import Derived.Laws.BitsAllLaws
import Derived.Laws.StructEq
import Derived.Outline
import Derived.Test.YbulkdphmDoorZNext
import Derived.Test.YbulkdphmDoorNext
namespace Go.Proofs.YbulkdphmDoor
open Go.ChangeShapes Go.WideShapes Go.ChangeAt Go.RowKit
open Go.ChangeMaps (setBlock)
set_option linter.unusedVariables false

theorem nextOf_fits {xs : List Int} (hb : ∀ x ∈ xs, 0 ≤ x ∧ x < 256) {s L : Nat} (h : nextOf xs = some (s, L)) : s + L ≤ xs.length ∧ 2 ≤ xs.length := by
  rcases nextOf_cases xs hb with ⟨h1, e⟩ | ⟨h2, x1, hx, hh⟩
  · rw [e] at h; cases h
  · rcases hh with ⟨_, ⟨_, e⟩ | ⟨h3, e⟩⟩ | ⟨_, _, ⟨_, e⟩ | ⟨_, _, _, L', _, ⟨_, e⟩ | ⟨h3, e⟩⟩⟩
    · rw [e] at h; cases h
    · have e2 := Option.some.inj (e.symm.trans h)
      have es := congrArg Prod.fst e2
      have eL := congrArg Prod.snd e2
      dsimp only at es eL
      omega
    · rw [e] at h; cases h
    · rw [e] at h; cases h
    · have e2 := Option.some.inj (e.symm.trans h)
      have es := congrArg Prod.fst e2
      have eL := congrArg Prod.snd e2
      dsimp only at es eL
      omega

theorem znext_none (b off n c : Nat) (xs : List Int) (w : World) (h : Bytes w b off n xs) (hc : n ≤ c) (hn : n ≤ 1048576) (hN : nextOf xs = none) :
    Calls Ybad.prog 4 #[.slice (some ⟨b, off, none⟩) n c] w fun e w' => e = .returned (.tuple #[.int .u8 0, .slice none 0 0, .slice none 0 0, .bool false]) ∧ w' = w := by
  have hl := h.len
  rcases nextOf_cases xs h.byte with ⟨h1, e⟩ | ⟨h2, x1, hx, hh⟩
  · exact znext_short _ n c w (by omega)
  · rcases hh with ⟨ha, ⟨hb, e⟩ | ⟨h3, e⟩⟩ | ⟨h128, h256, ⟨hk, e⟩ | ⟨k0, k4, kn, L, hL, ⟨hb, e⟩ | ⟨h3, e⟩⟩⟩
    · exact znext_a b off n c xs w h hc hn (by omega) x1 hx ha (by omega)
    · rw [e] at hN; cases hN
    · by_cases h0 : x1 - 128 = 0
      · exact znext_c b off n c xs w h hc hn (by omega) x1 hx h128 h256 h0
      · by_cases h4 : 4 < x1 - 128
        · exact znext_d b off n c xs w h hc hn (by omega) x1 hx h128 h256 h4
        · exact znext_e b off n c xs w h hc hn (by omega) x1 hx h128 h256 (by omega) (by omega) (by omega)
    · exact znext_f b off n c xs w h hc hn (by omega) x1 hx h128 h256 k0 k4 (by omega) L hL (by omega)
    · rw [e] at hN; cases hN

theorem znext_some (b off n c : Nat) (xs : List Int) (w : World) (h : Bytes w b off n xs) (hc : n ≤ c) (hn : n ≤ 1048576) (s L : Nat) (hN : nextOf xs = some (s, L)) :
    Calls Ybad.prog 4 #[.slice (some ⟨b, off, none⟩) n c] w fun e w' => ∃ o1 c1 o2 c2 q, e = .returned (.tuple #[.int .u8 (xs.getD 0 0), .slice (some ⟨b, o1, none⟩) L c1, .slice (some ⟨b, o2, none⟩) (n - (s + L)) c2, .bool true]) ∧ w' = w.drewN q ∧ L ≤ c1 ∧ Bytes w b o1 L ((xs.take (s + L)).drop s) ∧ Bytes w b o2 (n - (s + L)) (xs.drop (s + L)) := by
  have hl := h.len
  rcases nextOf_cases xs h.byte with ⟨h1, e⟩ | ⟨h2, x1, hx, hh⟩
  · rw [e] at hN; cases hN
  · rcases hh with ⟨ha, ⟨hb, e⟩ | ⟨h3, e⟩⟩ | ⟨h128, h256, ⟨hk, e⟩ | ⟨k0, k4, kn, L', hL, ⟨hb, e⟩ | ⟨h3, e⟩⟩⟩
    · rw [e] at hN; cases hN
    · have e2 := Option.some.inj (e.symm.trans hN)
      have es := congrArg Prod.fst e2
      have eL := congrArg Prod.snd e2
      dsimp only at es eL
      subst es eL
      exact znext_b b off n c xs w h hc hn (by omega) x1 hx ha (by omega)
    · rw [e] at hN; cases hN
    · rw [e] at hN; cases hN
    · have e2 := Option.some.inj (e.symm.trans hN)
      have es := congrArg Prod.fst e2
      have eL := congrArg Prod.snd e2
      dsimp only at es eL
      subst es eL
      exact znext_g b off n c xs w h hc hn (by omega) x1 hx h128 h256 k0 k4 (by omega) L' hL (by omega)

theorem next_none (db b off n c : Nat) (xs : List Int) (w : World) (hd : w.cell? ⟨db, 0, none⟩ = some (.slice (some ⟨b, off, none⟩) n c)) (hz : w.frozen? ⟨db, 0, none⟩ = false) (h : Bytes w b off n xs) (hc : n ≤ c) (hn : n ≤ 1048576) (hN : nextOf xs = none) :
    Calls Ybad.prog 20 #[.pointer (some ⟨db, 0, none⟩)] w fun e w' => e = .returned (.tuple #[.int .u8 0, .slice none 0 0, .bool false]) ∧ w' = w := by
  have hl := h.len
  rcases nextOf_cases xs h.byte with ⟨h1, e⟩ | ⟨h2, x1, hx, hh⟩
  · exact next_short db n c _ w hd (by omega)
  · rcases hh with ⟨ha, ⟨hb, e⟩ | ⟨h3, e⟩⟩ | ⟨h128, h256, ⟨hk, e⟩ | ⟨k0, k4, kn, L, hL, ⟨hb, e⟩ | ⟨h3, e⟩⟩⟩
    · exact next_a db b off n c xs w hd hz h hc hn (by omega) x1 hx ha (by omega)
    · rw [e] at hN; cases hN
    · by_cases h0 : x1 - 128 = 0
      · exact next_c db b off n c xs w hd hz h hc hn (by omega) x1 hx h128 h256 h0
      · by_cases h4 : 4 < x1 - 128
        · exact next_d db b off n c xs w hd hz h hc hn (by omega) x1 hx h128 h256 h4
        · exact next_e db b off n c xs w hd hz h hc hn (by omega) x1 hx h128 h256 (by omega) (by omega) (by omega)
    · exact next_f db b off n c xs w hd hz h hc hn (by omega) x1 hx h128 h256 k0 k4 (by omega) L hL (by omega)
    · rw [e] at hN; cases hN

theorem next_some (db b off n c : Nat) (xs : List Int) (w : World) (hd : w.cell? ⟨db, 0, none⟩ = some (.slice (some ⟨b, off, none⟩) n c)) (hz : w.frozen? ⟨db, 0, none⟩ = false) (h : Bytes w b off n xs) (hc : n ≤ c) (hn : n ≤ 1048576) (s L : Nat) (hN : nextOf xs = some (s, L)) :
    Calls Ybad.prog 20 #[.pointer (some ⟨db, 0, none⟩)] w fun e w' => ∃ o1 c1 o2 c2 q, e = .returned (.tuple #[.int .u8 (xs.getD 0 0), .slice (some ⟨b, o1, none⟩) L c1, .bool true]) ∧ w' = (w.setCell ⟨db, 0, none⟩ (.slice (some ⟨b, o2, none⟩) (n - (s + L)) c2)).drewN q ∧ L ≤ c1 ∧ Bytes w b o1 L ((xs.take (s + L)).drop s) ∧ Bytes w b o2 (n - (s + L)) (xs.drop (s + L)) := by
  have hl := h.len
  rcases nextOf_cases xs h.byte with ⟨h1, e⟩ | ⟨h2, x1, hx, hh⟩
  · rw [e] at hN; cases hN
  · rcases hh with ⟨ha, ⟨hb, e⟩ | ⟨h3, e⟩⟩ | ⟨h128, h256, ⟨hk, e⟩ | ⟨k0, k4, kn, L', hL, ⟨hb, e⟩ | ⟨h3, e⟩⟩⟩
    · rw [e] at hN; cases hN
    · have e2 := Option.some.inj (e.symm.trans hN)
      have es := congrArg Prod.fst e2
      have eL := congrArg Prod.snd e2
      dsimp only at es eL
      subst es eL
      exact next_b db b off n c xs w hd hz h hc hn (by omega) x1 hx ha (by omega)
    · rw [e] at hN; cases hN
    · rw [e] at hN; cases hN
    · have e2 := Option.some.inj (e.symm.trans hN)
      have es := congrArg Prod.fst e2
      have eL := congrArg Prod.snd e2
      dsimp only at es eL
      subst es eL
      exact next_g db b off n c xs w hd hz h hc hn (by omega) x1 hx h128 h256 k0 k4 (by omega) L' hL (by omega)

/-- (*decoder).element where there is no whole element. -/
theorem element_none (db : Nat) (tg : Int) (w : World) (HN : Calls Ybad.prog 20 #[.pointer (some ⟨db, 0, none⟩)] w fun e w' => e = .returned (.tuple #[.int .u8 0, .slice none 0 0, .bool false]) ∧ w' = w) :
    Calls Ybad.prog 15 #[.pointer (some ⟨db, 0, none⟩), .int .u8 tg] w fun e w' => e = .returned (.tuple #[.slice none 0 0, .bool false]) ∧ w' = w := by
  have H := hide HN
  clear HN
  go_enter Ybad.func15, Ybad.ntmps15
  go_wp2_with (go_at_call 20; refine H.out.mono ?_; rintro e w' ⟨rfl, rfl⟩)
  go_ret2
  exact ⟨rfl, rfl⟩

theorem element_some (db b off n c : Nat) (xs : List Int) (tg : Int) (w : World) (hd : w.cell? ⟨db, 0, none⟩ = some (.slice (some ⟨b, off, none⟩) n c)) (hz : w.frozen? ⟨db, 0, none⟩ = false) (h : Bytes w b off n xs) (hc : n ≤ c) (hn : n ≤ 1048576) (s L : Nat) (hN : nextOf xs = some (s, L)) :
    Calls Ybad.prog 15 #[.pointer (some ⟨db, 0, none⟩), .int .u8 tg] w fun e w' => ∃ o1 c1 o2 c2 q, e = .returned (.tuple #[.slice (some ⟨b, o1, none⟩) L c1, .bool (xs.getD 0 0 == tg)]) ∧ w' = (w.setCell ⟨db, 0, none⟩ (.slice (some ⟨b, o2, none⟩) (n - (s + L)) c2)).drewN q ∧ L ≤ c1 ∧ Bytes w b o1 L ((xs.take (s + L)).drop s) ∧ Bytes w b o2 (n - (s + L)) (xs.drop (s + L)) := by
  have H := hide (next_some db b off n c xs w hd hz h hc hn s L hN)
  obtain ⟨x0, hx0⟩ : ∃ x, x = xs.getD 0 0 := ⟨_, rfl⟩
  rw [← hx0] at H
  rw [← hx0]
  clear h hd hz hN hx0
  go_enter Ybad.func15, Ybad.ntmps15
  go_wp2_with (go_at_call 20; refine H.out.mono ?_; rintro e w' ⟨o1, c1, o2, c2, q, rfl, rfl, hh⟩; have HH := hide hh; clear hh)
  go_ret2
  exact ⟨o1, c1, o2, c2, q, rfl, rfl, HH.out⟩
end Go.Proofs.YbulkdphmDoor
