/-
  The law's input, what lies in memory while the law runs, and '(*store).handedOn' in one contract.
-/
import Derived.Test.YbulkdpjqRows
import Derived.WalkKit
import Derived.ProofKit
import Derived.OpenShut
import Derived.WalkLawsBesides
import Derived.BigQuiet
import Derived.Laws.BitsAllLaws
import Derived.Laws.StructEq
import Derived.Outline
import Derived.Test.YbulkdpjqHeap
import Derived.Test.YbulkdpjqFew
import Derived.Test.YbulkdpjqHanded
import Derived.Test.YbulkdpjqRec
import Derived.Deep.RegionWith
import Derived.Deep.RegionHeld3
import Derived.Deep.DeepCutAuto
import Derived.Deep.DrawnRows
namespace Go.Proofs.Ybulkdpjq
open Go.ChangeShapes Go.WideShapes Go.ChangeAt Go.RowKit
open Go.ChangeMaps (setBlock)
set_option linter.unusedVariables false

/-- Nothing of W has turned. -/
def Grew (W w' : World) : Prop := Below W.heap.size W w'
theorem Grew.refl (W : World) : Grew W W := Below.refl _ _
theorem Grew.trans {a b c : World} (h : Grew a b) (k : Grew b c) : Grew a c := Below.trans h (Below.mono k h.size)
theorem Grew.drew {a b : World} (h : Grew a b) : Grew a b.drew := Below.drew h
theorem Grew.drewN {a b : World} (h : Grew a b) (n : Nat) : Grew a (b.drewN n) := below_drewN h n
theorem Grew.alloc {a b : World} (h : Grew a b) (o : Obj) : Grew a (b.alloc o) := Below.alloc h h.size o
theorem Grew.setCell {a b : World} (h : Grew a b) {p : Addr} (hp : a.heap.size ≤ p.block) (u : Value) : Grew a (b.setCell p u) := Below.setCell h hp u
theorem Grew.blk {a b : World} (h : Grew a b) {k : Nat} {o : Obj} (hk : a.heap[k]? = some o) : b.heap[k]? = some o := (h.block k (lt_of_block hk)).trans hk
theorem Grew.isB {a b : World} (h : Grew a b) {v : Value} {xs : List Int} (hi : IsB a v xs) : IsB b v xs := hi.ext h
theorem Grew.isRec {a b : World} (h : Grew a b) {r : Nat} {t : ByteArray} {v g : Value} {s : Int} (hi : IsRec a r t v s g) : IsRec b r t v s g := h.blk hi

theorem one_id (k : Int) : ∀ v ∈ (idC k).toList, v.oneCell' = true := by
  intro v hv
  simp at hv
  rcases hv with rfl | rfl <;> rfl

/-- The law's input. -/
structure Inp where
  (a0 a1 a2 a3 a4 : Int)
  (b5 b6 b7 b8 b15 b16 : Bool)
  (p9 p10 p11 p12 : Option Addr)
  (l9 c9 l10 c10 l11 c11 l12 c12 : Nat)
  (q13 q14 n17 n18 n19 : Int)
  (xs9 xs10 xs11 xs12 : List Int)

abbrev InC (a0 a1 a2 a3 a4 : Int) (b5 b6 b7 b8 b15 b16 : Bool) (v9 v10 v11 v12 : Value) (q13 q14 n17 n18 n19 : Int) : Array Value :=
  #[.int .u8 a0, .int .u8 a1, .int .u8 a2, .int .u8 a3, .int .u8 a4, .bool b5, .bool b6, .bool b7, .bool b8, v9, v10, v11, v12, .int .u64 q13, .int .u64 q14, .bool b15, .bool b16, .int .i64 n17, .int .i64 n18, .int .i64 n19]
abbrev Inp.v9 (i : Inp) : Value := .slice i.p9 i.l9 i.c9
abbrev Inp.v10 (i : Inp) : Value := .slice i.p10 i.l10 i.c10
abbrev Inp.v11 (i : Inp) : Value := .slice i.p11 i.l11 i.c11
abbrev Inp.v12 (i : Inp) : Value := .slice i.p12 i.l12 i.c12
abbrev Inp.cells (i : Inp) : Array Value := InC i.a0 i.a1 i.a2 i.a3 i.a4 i.b5 i.b6 i.b7 i.b8 i.b15 i.b16 i.v9 i.v10 i.v11 i.v12 i.q13 i.q14 i.n17 i.n18 i.n19
/-- The type's name of the record, of the entry's place; the entry's key. -/
def Inp.tR (i : Inp) : ByteArray := typS i.a0
def Inp.tS (i : Inp) : ByteArray := if i.b6 then i.tR else typS i.a1
def Inp.kS (i : Inp) : Int := if i.b6 then i.a3 else i.a4
/-- What was handed on. -/
def Inp.hq (i : Inp) : Int := if i.b8 then i.q13 else i.q14
def Inp.hv (i : Inp) : Value := if i.b8 then i.v9 else i.v11
def Inp.hg (i : Inp) : Value := if i.b8 then i.v10 else i.v12
def Inp.hxs (i : Inp) : List Int := if i.b8 then i.xs9 else i.xs11
def Inp.hys (i : Inp) : List Int := if i.b8 then i.xs10 else i.xs12
abbrev Inp.H (i : Inp) : Int := i.n17 / 4
abbrev Inp.L (i : Inp) : Int := i.n18 / 4
abbrev Inp.A (i : Inp) : Int := i.n19 / 4
/-- The entry is the record's, and it is the same as what was handed on. -/
def Inp.found (i : Inp) : Bool := i.b5 && sameKey i.tR i.tS i.a3 i.kS
def Inp.signed (i : Inp) : Bool := i.tR.toList == [115, 105, 103, 110, 101, 100]
def Inp.same (i : Inp) : Bool := if i.signed then i.q13 == i.hq && i.xs10 == i.hys else i.xs9 == i.hxs
def Inp.want (i : Inp) : Bool := i.found && i.b7 && (i.same && (i.b16 || !i.b15) && decide (i.A ≤ i.H + i.L))

structure Inp.Ok (i : Inp) : Prop where
  a0 : 0 ≤ i.a0 ∧ i.a0 ≤ 255
  a1 : 0 ≤ i.a1 ∧ i.a1 ≤ 255
  a2 : 0 ≤ i.a2 ∧ i.a2 ≤ 255
  a3 : 0 ≤ i.a3 ∧ i.a3 ≤ 255
  a4 : 0 ≤ i.a4 ∧ i.a4 ≤ 255
  e9 : i.l9 = i.xs9.length
  e10 : i.l10 = i.xs10.length
  e11 : i.l11 = i.xs11.length
  e12 : i.l12 = i.xs12.length
  m9 : i.xs9.length ≤ 1048576
  m10 : i.xs10.length ≤ 1048576
  m11 : i.xs11.length ≤ 1048576
  m12 : i.xs12.length ≤ 1048576
  y9 : ∀ x ∈ i.xs9, 0 ≤ x ∧ x ≤ 255
  y10 : ∀ x ∈ i.xs10, 0 ≤ x ∧ x ≤ 255
  y11 : ∀ x ∈ i.xs11, 0 ≤ x ∧ x ≤ 255
  y12 : ∀ x ∈ i.xs12, 0 ≤ x ∧ x ≤ 255
  n17 : -9223372036854775808 ≤ i.n17 ∧ i.n17 ≤ 9223372036854775807
  n18 : -9223372036854775808 ≤ i.n18 ∧ i.n18 ≤ 9223372036854775807
  n19 : -9223372036854775808 ≤ i.n19 ∧ i.n19 ≤ 9223372036854775807

/-- What lies in memory all along: the input's box, the key's box, the input's bytes. -/
structure Base (i : Inp) (w0 : World) (ib kb : Nat) (W : World) : Prop where
  box : W.heap[ib]? = some (.cells i.cells 25)
  key : W.heap[kb]? = some (.cells (idC i.a3) 30)
  grew : Grew w0 W
  s9 : IsB W i.v9 i.xs9
  s10 : IsB W i.v10 i.xs10
  s11 : IsB W i.v11 i.xs11
  s12 : IsB W i.v12 i.xs12

theorem Base.ext {i : Inp} {w0 W W' : World} {ib kb : Nat} (h : Base i w0 ib kb W) (g : Grew W W') : Base i w0 ib kb W' :=
  ⟨g.blk h.box, g.blk h.key, h.grew.trans g, g.isB h.s9, g.isB h.s10, g.isB h.s11, g.isB h.s12⟩

/-- A record made of copies of v0 and g0, whose bytes are xs and ys. -/
def Made (w : World) (s : Value) (t : ByteArray) (q : Int) (v0 g0 : Value) (xs ys : List Int) : Prop :=
  ∃ rb v g, s = .pointer (some ⟨rb, 0, none⟩) ∧ IsRec w rb t v q g ∧ nilB v = nilB v0 ∧ nilB g = nilB g0 ∧ IsB w v xs ∧ IsB w g ys
theorem Made.ext {a b : World} {s : Value} {t : ByteArray} {q : Int} {v0 g0 : Value} {xs ys : List Int} (h : Made a s t q v0 g0 xs ys) (k : Grew a b) : Made b s t q v0 g0 xs ys := by
  obtain ⟨rb, v, g, h1, h2, h3, h4, h5, h6⟩ := h
  exact ⟨rb, v, g, h1, k.isRec h2, h3, h4, k.isB h5, k.isB h6⟩

/-- The record that was handed on, or none. -/
def Hand (i : Inp) (w : World) (s : Value) : Prop := (i.b7 = true ∧ Made w s (typS i.a2) i.hq i.hv i.hg i.hxs i.hys) ∨ (i.b7 = false ∧ s = .pointer none)
theorem Hand.ext {i : Inp} {a b : World} {s : Value} (h : Hand i a s) (k : Grew a b) : Hand i b s := by
  rcases h with ⟨h1, h2⟩ | h
  · exact .inl ⟨h1, h2.ext k⟩
  · exact .inr h

/-- An entry's cells. -/
abbrev EC (t : ByteArray) (k : Int) (s : Value) (h : Int) (few : Bool) : Array Value := #[.string t, .int .u8 k, .int .u8 0, .int .u8 0, .int .u8 0, .int .u8 0, .int .u8 0, .int .u8 0, .int .u8 0, .int .u8 0, .int .u8 0, .int .u8 0, .int .u8 0, .int .u8 0, .int .u8 0, .int .u8 0, .int .u8 0, .int .u8 0, .int .u8 0, .int .u8 0, .int .u8 0, .int .u8 0, .int .u8 0, .int .u8 0, .int .u8 0, .int .u8 0, .int .u8 0, .int .u8 0, .int .u8 0, .int .u8 0, .int .u8 0, .int .u8 0, .int .u8 0, .pointer none, s, .int .u64 (h % 1000000000), .int .i64 (h / 1000000000), .pointer none, .bool few, .int .u64 0, .bool false, .pointer none, .pointer none, .int .u64 0, .int .u64 0, .int .i64 0, .pointer none, .pointer none]

/-- The entry and the map. -/
def Ents (i : Inp) (w : World) (mb : Nat) (s11 s16 : Value) : Prop :=
  (i.b5 = true ∧ ∃ eb, s16 = .pointer (some ⟨eb, 0, none⟩) ∧ w.heap[eb]? = some (.cells (EC i.tS i.kS s11 i.H i.b15) 48) ∧ w.heap[mb]? = some (.map #[{ key := .agg (KC i.tS i.kS), val := s16, born := 0 }] 1)) ∨
  (i.b5 = false ∧ s16 = .pointer none ∧ w.heap[mb]? = some (.map #[] 0))
theorem Ents.ext {i : Inp} {a b : World} {mb : Nat} {s11 s16 : Value} (h : Ents i a mb s11 s16) (k : Grew a b) : Ents i b mb s11 s16 := by
  rcases h with ⟨h1, eb, h2, h3, h4⟩ | ⟨h1, h2, h3⟩
  · exact .inl ⟨h1, eb, h2, k.blk h3, k.blk h4⟩
  · exact .inr ⟨h1, h2, k.blk h3⟩

theorem typS_size (a : Int) : (typS a).size ≤ maxLen := by
  unfold typS
  split
  · decide
  · split
    · decide
    · split
      · decide
      · decide

theorem u8_wf {k : Int} (h : 0 ≤ k ∧ k ≤ 255) : (Lit.int .u8 k).wf = true := by
  have e1 : IntKind.u8.min = 0 := rfl
  have e2 : IntKind.u8.max = 255 := rfl
  simp [Lit.wf, e1, e2, h.1, h.2]

theorem Inp.tR_size (i : Inp) : i.tR.size ≤ maxLen := typS_size _
theorem Inp.tS_size (i : Inp) : i.tS.size ≤ maxLen := by
  unfold Inp.tS
  split
  · exact i.tR_size
  · exact typS_size _
theorem Inp.kS_ok {i : Inp} (ok : i.Ok) : 0 ≤ i.kS ∧ i.kS ≤ 255 := by
  unfold Inp.kS
  split
  · exact ok.a3
  · exact ok.a4
theorem Inp.hxs_ok {i : Inp} (ok : i.Ok) : (∀ x ∈ i.hxs, 0 ≤ x ∧ x ≤ 255) ∧ i.hxs.length ≤ 1048576 := by
  unfold Inp.hxs
  split
  · exact ⟨ok.y9, ok.m9⟩
  · exact ⟨ok.y11, ok.m11⟩
theorem Inp.hys_ok {i : Inp} (ok : i.Ok) : (∀ x ∈ i.hys, 0 ≤ x ∧ x ≤ 255) ∧ i.hys.length ≤ 1048576 := by
  unfold Inp.hys
  split
  · exact ⟨ok.y10, ok.m10⟩
  · exact ⟨ok.y12, ok.m12⟩
theorem Inp.H_ok {i : Inp} (ok : i.Ok) : -2305843009213693952 ≤ i.H ∧ i.H ≤ 2305843009213693951 := by
  have := ok.n17
  unfold Inp.H
  omega
theorem Inp.L_ok {i : Inp} (ok : i.Ok) : -2305843009213693952 ≤ i.L ∧ i.L ≤ 2305843009213693951 := by
  have := ok.n18
  unfold Inp.L
  omega
theorem Inp.A_ok {i : Inp} (ok : i.Ok) : -2305843009213693952 ≤ i.A ∧ i.A ≤ 2305843009213693951 := by
  have := ok.n19
  unfold Inp.A
  omega

theorem typS_signed {a : Int} (h : ((typS a).toList == [115, 105, 103, 110, 101, 100]) = true) : typS a = ⟨#[115, 105, 103, 110, 101, 100]⟩ := by
  have h' := beq_iff_eq.1 h
  rw [ByteArray.toList_eq] at h'
  generalize typS a = t at h'
  obtain ⟨⟨l⟩⟩ := t
  congr 2

/-- '(*record).same' of the record and of what was handed on. -/
theorem same_all {i : Inp} (ok : i.Ok) {rb hb : Nat} {v g v' g' : Value} {w : World} (h : IsRec w rb i.tR v i.q13 g) (h' : IsRec w hb (typS i.a2) v' i.hq g') (hv : IsB w v i.xs9) (hg : IsB w g i.xs10) (hv' : IsB w v' i.hxs) (hg' : IsB w g' i.hys) :
    Calls Yba.prog 15 #[.pointer (some ⟨rb, 0, none⟩), .pointer (some ⟨hb, 0, none⟩)] w fun e w' => e = .returned (.bool i.same) ∧ ∃ q, w' = w.drewN q := by
  cases hs : i.signed with
  | false =>
    have e : i.same = (i.xs9 == i.hxs) := by simp [Inp.same, hs]
    rw [e]
    exact same_plain rb hb _ _ v v' g g' _ _ _ _ w h h' hv hv' hs ok.y9 (Inp.hxs_ok ok).1
  | true =>
    have e : i.same = (i.q13 == i.hq && i.xs10 == i.hys) := by simp [Inp.same, hs]
    have et := typS_signed hs
    rw [show i.tR = typS i.a0 from rfl, et] at h
    rw [e]
    cases hq : (i.q13 == i.hq) with
    | false => exact same_signed_ne rb hb _ v v' g g' _ _ w h h' hq
    | true =>
      rw [← beq_iff_eq.1 hq] at h'
      exact same_signed_eq rb hb _ v v' g g' _ _ _ w h h' hg hg' ok.y10 (Inp.hys_ok ok).1

theorem HW.grew (w : World) (k a : Int) (n : Nat) : Grew w ((HW w k a).drewN n) := (((Grew.refl w).alloc _).alloc _).drewN n

/-- '(*store).handedOn' -/
theorem ho_all {i : Inp} (ok : i.Ok) (sb mb : Nat) (s8 s11 s16 : Value) (w : World) (s0 : w.cell? ⟨sb, 0, none⟩ = some (.map (some mb))) (s5 : w.cell? ⟨sb, 5, none⟩ = some (.int .i64 i.L))
    (h8 : Made w s8 i.tR i.q13 i.v9 i.v10 i.xs9 i.xs10) (hh : Hand i w s11) (he : Ents i w mb s11 s16) :
    Calls Yba.prog 7 #[.pointer (some ⟨sb, 0, none⟩), .agg (idC i.a3), s8, .bool i.b16, AT i.A] w fun e w' => e = .returned (.bool i.want) ∧ Grew w w' := by
  obtain ⟨rb, v, g, rfl, hr, hn1, hn2, hv, hg⟩ := h8
  have hsb : sb < w.heap.size := World.block_lt_of_cell? w _ s0
  have hrb : rb < w.heap.size := lt_of_block hr
  have r0 := hr.cells.1
  have t1 := i.tR_size
  have t2 := i.tS_size
  have k1 := u8_wf ok.a3
  have k2 := u8_wf (Inp.kS_ok ok)
  have o17 := Inp.H_ok ok
  have o18 := Inp.L_ok ok
  rcases he with ⟨hp, eb, rfl, heb, hmb⟩ | ⟨hp, rfl, hmb⟩
  · have hlook : ∀ n, (Instr.lookup 43 (.map (some mb)) (.agg (KC i.tR i.a3)) true).run Yba.prog ((HW w i.a3 i.A).drewN n) = .ok (.tuple #[if sameKey i.tR i.tS i.a3 i.kS then .pointer (some ⟨eb, 0, none⟩) else .pointer none, .bool (sameKey i.tR i.tS i.a3 i.kS)]) ((HW w i.a3 i.A).drewN n) := by
      intro n
      have := run_look_one ((HW.grew w i.a3 i.A n).blk hmb) i.tR i.a3 t1 k1 t2 k2 true
      simpa using this
    have heb' : eb < w.heap.size := lt_of_block heb
    cases hk : sameKey i.tR i.tS i.a3 i.kS with
    | false =>
      have ew : i.want = false := by simp [Inp.want, Inp.found, hk]
      rw [ew]
      simp only [hk] at hlook
      exact (ho_none sb rb mb i.tR i.a3 i.A i.b16 w hsb hrb s0 r0 hlook).mono fun e w' h => h
    | true =>
      simp only [hk, if_true] at hlook
      have e34 : w.cell? ⟨eb, 34, none⟩ = some s11 := cell_at heb rfl
      have e35 : w.cell? ⟨eb, 35, none⟩ = some (.int .u64 (i.H % 1000000000)) := cell_at heb rfl
      have e36 : w.cell? ⟨eb, 36, none⟩ = some (.int .i64 (i.H / 1000000000)) := cell_at heb rfl
      have e37 : w.cell? ⟨eb, 37, none⟩ = some (.pointer none) := cell_at heb rfl
      have e38 : w.cell? ⟨eb, 38, none⟩ = some (.bool i.b15) := cell_at heb rfl
      rcases hh with ⟨h7, hb, v', g', rfl, hr', hm1, hm2, hv', hg'⟩ | ⟨h7, rfl⟩
      · have hsm : ∀ n, Calls Yba.prog 15 #[.pointer (some ⟨rb, 0, none⟩), .pointer (some ⟨hb, 0, none⟩)] ((HW w i.a3 i.A).drewN n) fun e w' => e = .returned (.bool i.same) ∧ ∃ m, w' = ((HW w i.a3 i.A).drewN n).drewN m := by
          intro n
          have gg := HW.grew w i.a3 i.A n
          exact same_all ok (gg.isRec hr) (gg.isRec hr') (gg.isB hv) (gg.isB hg) (gg.isB hv') (gg.isB hg')
        cases hsame : i.same with
        | false =>
          have ew : i.want = false := by simp [Inp.want, hsame]
          rw [ew]
          rw [hsame] at hsm
          exact ho_diff sb rb mb eb hb i.tR i.a3 i.A i.b16 w hsb hrb s0 r0 hlook heb' e34 hsm
        | true =>
          rw [hsame] at hsm
          have ed : (!decide (i.H + i.L < i.A)) = decide (i.A ≤ i.H + i.L) := by
            by_cases hx : i.H + i.L < i.A
            · rw [decide_eq_true hx, decide_eq_false (by omega)]; rfl
            · rw [decide_eq_false hx, decide_eq_true (by omega)]; rfl
          cases h16 : i.b16 with
          | true =>
            have ew : i.want = decide (i.A ≤ i.H + i.L) := by simp [Inp.want, Inp.found, hp, hk, h7, hsame, h16]
            rw [ew, ← ed]
            exact ho_time_few sb rb mb eb hb i.tR i.a3 i.A i.H i.L w (by omega) (by omega) (by omega) (by omega) hsb hrb s0 r0 hlook heb' e34 e35 e36 e37 s5 hsm
          | false =>
            cases h15 : i.b15 with
            | true =>
              have ew : i.want = false := by simp [Inp.want, h16, h15]
              rw [ew]
              rw [h15] at e38
              exact ho_few sb rb mb eb hb i.tR i.a3 i.A w hsb hrb s0 r0 hlook heb' e34 e38 hsm
            | false =>
              have ew : i.want = decide (i.A ≤ i.H + i.L) := by simp [Inp.want, Inp.found, hp, hk, h7, hsame, h16, h15]
              rw [ew, ← ed]
              rw [h15] at e38
              exact ho_time_all sb rb mb eb hb i.tR i.a3 i.A i.H i.L w (by omega) (by omega) (by omega) (by omega) hsb hrb s0 r0 hlook heb' e34 e35 e36 e37 s5 e38 hsm
      · have ew : i.want = false := by simp [Inp.want, h7]
        rw [ew]
        exact ho_nohand sb rb mb eb i.tR i.a3 i.A i.b16 w hsb hrb s0 r0 hlook heb' e34
  · have ew : i.want = false := by simp [Inp.want, Inp.found, hp]
    rw [ew]
    refine ho_none sb rb mb i.tR i.a3 i.A i.b16 w hsb hrb s0 r0 fun n => ?_
    exact run_look_empty ((HW.grew w i.a3 i.A n).blk hmb) i.tR i.a3 t1 k1

/-- What of a chain of statements is left behind the first n. -/
def tl : Nat → Code → Code
  | n + 1, .seq _ b => tl n b
  | _, c => c
/-- The first statement of a chain. -/
def hd : Code → Code
  | .seq a _ => a
  | c => c
end Go.Proofs.Ybulkdpjq
