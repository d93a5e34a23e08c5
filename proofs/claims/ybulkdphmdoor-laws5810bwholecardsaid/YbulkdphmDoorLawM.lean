/-
  What stands when the law has its element.
-/
import Derived.Test.YbulkdphmDoorRows
import Derived.WalkKit
import Derived.ProofKit
import Derived.OpenShut
import Derived.WalkLawsBesides
import Derived.BigQuiet
import Derived.Laws.BitsAllLaws
import Derived.Laws.StructEq
import Derived.Outline
import Derived.Deep.RegionWith
import Derived.Deep.RegionHeld3
import Derived.Deep.DeepCutAuto
import Derived.Deep.DrawnRows
import Derived.Handy
import Derived.Laws.ResultCell
import Derived.Test.YbulkdphmDoorLawE
namespace Go.Proofs.YbulkdphmDoor
open Go.ChangeShapes Go.WideShapes Go.ChangeAt Go.RowKit
open Go.ChangeMaps (setBlock)
set_option linter.unusedVariables false
set_option linter.unusedSimpArgs false

open Go.Lib (byteCells decDigits itoa)
/-- What stands when the law has its element: the bytes, their copy, the contents, the rest, the Var to be filled. -/
structure Mid (w0 W : World) (a4 a6 : Addr) (bb kb wb n cb s L o1 c1 o2 c2 r : Nat) (xs : List Int) : Prop where
  tz : ∀ w', Below w0.heap.size w0 w' → Tab w' ∧ Zs w' a4 a6
  bl : Below w0.heap.size w0 W
  bs : Bytes W bb 0 n xs
  nc : n ≤ cb
  hn : n ≤ 1048576
  nx : nextOf xs = some (s, L)
  lc : L ≤ c1
  b1 : Bytes W bb o1 L ((xs.take (s + L)).drop s)
  b2 : Bytes W bb o2 r (xs.drop (s + L))
  hr : r = n - (s + L)
  ks : Bytes W kb 0 n xs
  wz : W.heap[wb]? = some (.cells #[.string ⟨#[]⟩, .string ⟨#[]⟩, .bool false] 27)
  bne : bb ≠ wb
  kne : kb ≠ wb
  w0w : w0.heap.size ≤ wb

/-- What the end of the law wants, behind a turn of the Var alone. -/
structure Fin (w0 W' : World) (bb kb wb n cb ck r o2 c2 : Nat) (xs ys : List Int) (tg : Int) (wv : ByteArray) (wn wok chk : Bool) : Prop where
  fwb : W'.heap[wb]? = some (.cells #[.string ⟨#[]⟩, .string wv, .bool wn] 27)
  fbl : Below w0.heap.size w0 W'
  fhv : Calls Ybad.prog 9 #[.pointer (some ⟨W'.heap.size, 0, none⟩), .int .u8 tg] (W'.alloc (.cells #[.slice (some ⟨bb, 0, none⟩) n cb] 33)) fun e w' => ∃ sv p1 c1, e = .returned (.tuple #[.agg #[.string ⟨#[]⟩, .string sv, .bool wn], .bool wok]) ∧ w'.cell? ⟨W'.heap.size, 0, none⟩ = some (.slice p1 r c1) ∧ (Below W'.heap.size W' w' ∧ (chk = true → sv = wv) ∧ Str W' (.slice p1 r c1) (strOf ys))
  fcb : Str W' (.slice (some ⟨bb, 0, none⟩) n cb) (strOf xs)
  fck : Str W' (.slice (some ⟨kb, 0, none⟩) n ck) (strOf xs)
  fcr : Str W' (.slice (some ⟨bb, o2, none⟩) r c2) (strOf ys)

/-- What value leaves agrees with what the law wants. -/
def Agree (tg x0 : Int) (cs : List Int) (wv : ByteArray) (wn wok chk : Bool) : Prop := ∀ sv nl ok, VAns tg x0 cs sv nl ok → nl = wn ∧ ok = wok ∧ (chk = true → sv = wv)
theorem Mid.fin {w0 W : World} {a4 a6 : Addr} {bb kb wb n cb s L o1 c1 o2 c2 r : Nat} {xs : List Int} (M : Mid w0 W a4 a6 bb kb wb n cb s L o1 c1 o2 c2 r xs) {W' : World} (hk : Kept (fun x => x = wb) W W') (ck : Nat) (tg : Int) (wv : ByteArray) (wn wok chk : Bool)
    (hwb : W'.heap[wb]? = some (.cells #[.string ⟨#[]⟩, .string wv, .bool wn] 27))
    (hA : Agree tg (xs.getD 0 0) ((xs.take (s + L)).drop s) wv wn wok chk) : Fin w0 W' bb kb wb n cb ck r o2 c2 xs (xs.drop (s + L)) tg wv wn wok chk := by
  have hsz := M.bl.size
  have hwlt := lt_of_block M.wz
  have hbl : Below w0.heap.size w0 W' := M.bl.trans (hk.below hsz (fun k hk => by rw [hk]; exact M.w0w))
  have bs' := M.bs.kept hk M.bne
  have b2' := M.b2.kept hk M.bne
  have ks' := M.ks.kept hk M.kne
  have hfit := nextOf_fits M.bs.byte M.nx
  have hlen := M.bs.len
  have hblt := bs'.lt (by omega)
  refine ⟨hwb, hbl, ?_, Str.bytes bs', Str.bytes ks', Str.bytes b2'⟩
  obtain ⟨db, hdb⟩ : ∃ db, db = W'.heap.size := ⟨_, rfl⟩
  obtain ⟨W1, hW1⟩ : ∃ W1, W1 = W'.alloc (.cells #[.slice (some ⟨bb, 0, none⟩) n cb] 33) := ⟨_, rfl⟩
  have hB1 : Below W'.heap.size W' W1 := by rw [hW1]; exact (Below.refl _ _).alloc (Nat.le_refl _) _
  have hd : W1.heap[db]? = some (.cells #[.slice (some ⟨bb, 0, none⟩) n cb] 33) := by rw [hW1]; exact hp_alloc_at hdb
  have hbl1 : Below w0.heap.size w0 W1 := hbl.trans (hB1.mono hbl.size)
  have tz1 := M.tz W1 hbl1
  have hv := value_some db bb 0 n cb xs tg W1 hd (bs'.on hB1) M.nc M.hn (by omega) s L M.nx tz1.1 a4 a6 tz1.2 w0.heap.size (by have := hbl.size; omega) (fun w' hb' => M.tz w' (hbl1.trans hb'))
  rw [← hdb, ← hW1]
  refine hv.mono ?_
  rintro e w' ⟨sv, nl, ok, o2', c2', rfl, hans, hcell, hby, hkept⟩
  obtain ⟨rfl, rfl, h3⟩ := hA sv nl ok hans
  have hbw : Below db W' w' := by
    have h1 : Below db W1 w' := hkept.below (by rw [hW1]; simp; omega) (fun k hk => by omega)
    rw [hdb] at h1 ⊢
    exact hB1.trans h1
  have hrr := M.hr
  refine ⟨sv, some ⟨bb, o2', none⟩, c2', rfl, by rw [hrr]; exact hcell, hbw, h3, ?_⟩
  rw [hrr]
  refine Str.bytes ⟨hby.len, hby.byte, fun i hi => ?_⟩
  have h1 := hby.cell i hi
  rw [← h1]
  exact (hB1.cell (p := ⟨bb, o2' + i, none⟩) hblt).symm

/-- Three stores into the Var. -/
theorem var_put {W2 : World} {wb : Nat} (h : W2.heap[wb]? = some (.cells #[.string ⟨#[]⟩, .string ⟨#[]⟩, .bool false] 27)) (t : ByteArray) (bo : Bool) :
    (((W2.setCell ⟨wb, 0, none⟩ (.string ⟨#[]⟩)).setCell ⟨wb, 1, none⟩ (.string t)).setCell ⟨wb, 2, none⟩ (.bool bo)).heap[wb]? = some (.cells #[.string ⟨#[]⟩, .string t, .bool bo] 27) := by
  rw [hp_setCell_eq (hp_setCell_eq (hp_setCell_eq h))]
  rfl
theorem var_kept {W W2 : World} {wb : Nat} (h : Kept (fun x => x = wb) W W2) (t : ByteArray) (bo : Bool) :
    Kept (fun x => x = wb) W (((W2.setCell ⟨wb, 0, none⟩ (.string ⟨#[]⟩)).setCell ⟨wb, 1, none⟩ (.string t)).setCell ⟨wb, 2, none⟩ (.bool bo)) :=
  ((h.setCell (Or.inl rfl) _).setCell (Or.inl rfl) _).setCell (Or.inl rfl) _
theorem Agree.yes {tg x0 : Int} {cs : List Int} {wv : ByteArray} {wn wok chk : Bool} (hx : x0 = tg) (hn : pvN tg = wn) (hk : pvK tg cs = wok) (hs : chk = true → pvS tg cs = some wv) : Agree tg x0 cs wv wn wok chk := by
  intro sv nl ok h
  unfold VAns at h
  rw [if_pos hx] at h
  exact ⟨h.1.trans hn, h.2.1.trans hk, fun hc => h.2.2 wv (hs hc)⟩
theorem Agree.no {tg x0 : Int} {cs : List Int} {chk : Bool} (hx : x0 ≠ tg) : Agree tg x0 cs ⟨#[]⟩ false false chk := by
  intro sv nl ok h
  unfold VAns at h
  rw [if_neg hx] at h
  exact ⟨h.2.1, h.2.2, fun _ => h.1⟩
end Go.Proofs.YbulkdphmDoor
