/-
  The law at a row of bytes.
-/
import Derived.Test.YbulkdphmDoorRows
import Derived.WalkKit
import Derived.ProofKit
import Derived.OpenShut
import Derived.WalkLawsBesides
import Derived.BigQuiet
import Derived.Laws.BitsAllLaws
import Derived.Laws.StructEq
import Derived.Outline
import Derived.Deep.RegionWith
import Derived.Deep.RegionHeld3
import Derived.Deep.DeepCutAuto
import Derived.Deep.DrawnRows
import Derived.Handy
import Derived.Laws.ResultCell
import Derived.Laws.OwnMore
import Derived.OwnWalk
import Derived.Test.YbulkdphmDoorLawC
namespace Go.Proofs.YbulkdphmDoor
open Go.ChangeShapes Go.WideShapes Go.ChangeAt Go.RowKit
open Go.ChangeMaps (setBlock)
set_option linter.unusedVariables false
set_option linter.unusedSimpArgs false

theorem cells_at {w : World} {b n : Nat} {xs : List Int} (h : Bytes w b 0 n xs) : ∀ j u, (xs.map (Value.int .u8))[j]? = some u → w.cell? ((⟨b, 0, none⟩ : Addr).add j) = some u := by
  intro j u hj
  have hjl : j < xs.length := by
    have := (List.getElem?_eq_some_iff.1 hj).1
    simpa using this
  rw [Lib.add_plain, h.cell j (by rw [h.len]; exact hjl)]
  simp [hjl] at hj
  subst hj
  simp [List.getD, hjl]

set_option maxRecDepth 100000 in
set_option maxHeartbeats 3200000 in
theorem st8_some (tg : Int) (w0 W : World) (a4 a6 : Addr) (tz : ∀ w', Below w0.heap.size w0 w' → Tab w' ∧ Zs w' a4 a6) (hBl : Below w0.heap.size w0 W) (bb n : Nat) (xs : List Int) (hn : n = xs.length) (hn1 : n ≤ 1048576) (hby : ∀ x ∈ xs, 0 ≤ x ∧ x < 256) (hbb : W.heap[bb]? = some (.cells (bt xs) 5)) (u0 u1 u2 u3 u4 u5 u6 u7 u10 u11 u12 u13 u14 u15 u16 u17 u18 u19 u20 u21 u22 u23 u24 u25 u26 u27 u28 u29 u30 u31 u32 u33 u34 u35 u36 u37 u38 u39 u40 u41 u42 u43 u44 u45 u46 u47 u48 u49 u50 u51 u52 u53 u54 u55 u56 u57 u58 u59 u60 u61 u62 u63 u64 u65 u66 u67 u68 u69 u70 u71 u72 u73 u74 u75 u76 u77 u78 u79 u80 u81 u82 u83 u84 u85 u86 u87 u88 u89 u90 u91 u92 u93 u94 u95 u96 u97 u98 u99 u100 u101 u102 u103 u104 u105 u106 u107 u108 u109 u110 u111 u112 u113 u114 u115 u116 u117 u118 u119 u120 u121 u122 u123 u124 u125 u126 u127 u128 u129 u130 u131 u132 u133 u134 u135 u136 u137 u138 u139 u140 u141 u142 u143 u144 u145 u146 u147 u148 u149 u150 u151 u152 u153 u154 u155 u156 u157 u158 u159 u160 u161 u162 u163 u164 u165 u166 u167 u168 u169 u170 u171 u172 u173 u174 u175 u176 u177 u178 u179 u180 u181 u182 u183 u184 u185 u186 u187 u188 u189 u190 u191 u192 u193 u194 u195 u196 u197 u198 u199 u200 u201 u202 u203 u204 u205 u206 u207 u208 u209 u210 u211 u212 u213 u214 u215 u216 u217 u218 u219 u220 u221 u222 u223 u224 u225 u226 u227 u228 u229 u230 u231 u232 u233 u234 u235 u236 u237 u238 u239 u240 u241 u242 u243 u244 u245 u246 u247 u248 u249 u250 u251 u252 u253 u254 u255 u256 : Value) (Q : Exit → Act → World → Prop) (hQ : Q = bodyPost Ybad.prog Ybad.f3 fun e w' => e = .returned (.bool true) ∧ Below w0.heap.size w0 w')
    (K : Act → World → Prop) (hK : ∀ a w, (tl 9 (Ybad.f3.body.getD .skip)).wp Ybad.prog Q a w → K a w) :
    (hd (tl 8 (Ybad.f3.body.getD .skip))).wp Ybad.prog (Exit.then K Q) { tmps := List.toArray (u0 :: u1 :: u2 :: u3 :: u4 :: u5 :: u6 :: u7 :: .int .u8 tg :: .slice (some ⟨bb, 0, none⟩) n n :: u10 :: u11 :: u12 :: u13 :: u14 :: u15 :: u16 :: u17 :: u18 :: u19 :: u20 :: u21 :: u22 :: u23 :: u24 :: u25 :: u26 :: u27 :: u28 :: u29 :: u30 :: u31 :: u32 :: u33 :: u34 :: u35 :: u36 :: u37 :: u38 :: u39 :: u40 :: u41 :: u42 :: u43 :: u44 :: u45 :: u46 :: u47 :: u48 :: u49 :: u50 :: u51 :: u52 :: u53 :: u54 :: u55 :: u56 :: u57 :: u58 :: u59 :: u60 :: u61 :: u62 :: u63 :: u64 :: u65 :: u66 :: u67 :: u68 :: u69 :: u70 :: u71 :: u72 :: u73 :: u74 :: u75 :: u76 :: u77 :: u78 :: u79 :: u80 :: u81 :: u82 :: u83 :: u84 :: u85 :: u86 :: u87 :: u88 :: u89 :: u90 :: u91 :: u92 :: u93 :: u94 :: u95 :: u96 :: u97 :: u98 :: u99 :: u100 :: u101 :: u102 :: u103 :: u104 :: u105 :: u106 :: u107 :: u108 :: u109 :: u110 :: u111 :: u112 :: u113 :: u114 :: u115 :: u116 :: u117 :: u118 :: u119 :: u120 :: u121 :: u122 :: u123 :: u124 :: u125 :: u126 :: u127 :: u128 :: u129 :: u130 :: u131 :: u132 :: u133 :: u134 :: u135 :: u136 :: u137 :: u138 :: u139 :: u140 :: u141 :: u142 :: u143 :: u144 :: u145 :: u146 :: u147 :: u148 :: u149 :: u150 :: u151 :: u152 :: u153 :: u154 :: u155 :: u156 :: u157 :: u158 :: u159 :: u160 :: u161 :: u162 :: u163 :: u164 :: u165 :: u166 :: u167 :: u168 :: u169 :: u170 :: u171 :: u172 :: u173 :: u174 :: u175 :: u176 :: u177 :: u178 :: u179 :: u180 :: u181 :: u182 :: u183 :: u184 :: u185 :: u186 :: u187 :: u188 :: u189 :: u190 :: u191 :: u192 :: u193 :: u194 :: u195 :: u196 :: u197 :: u198 :: u199 :: u200 :: u201 :: u202 :: u203 :: u204 :: u205 :: u206 :: u207 :: u208 :: u209 :: u210 :: u211 :: u212 :: u213 :: u214 :: u215 :: u216 :: u217 :: u218 :: u219 :: u220 :: u221 :: u222 :: u223 :: u224 :: u225 :: u226 :: u227 :: u228 :: u229 :: u230 :: u231 :: u232 :: u233 :: u234 :: u235 :: u236 :: u237 :: u238 :: u239 :: u240 :: u241 :: u242 :: u243 :: u244 :: u245 :: u246 :: u247 :: u248 :: u249 :: u250 :: u251 :: u252 :: u253 :: u254 :: u255 :: u256 :: []), defers := [] } W := by
  dsimp only [Ybad.f3, Option.getD, tl, hd] at hK ⊢
  subst hQ
  have hB := bytes_of hbb hby hn
  have HBL := hide hBl
  have HTZ := hide tz
  have HBY := hide hB
  have HN := hide hn
  have Hby := hide hby
  clear hBl tz hB hbb hn hby
  obtain ⟨i0, hi, hz0, hz1, hz2⟩ := info_parts info5
  have HI := hide hi
  have HZ0 := hide hz0
  have HZ1 := hide hz1
  have HZ2 := hide hz2
  clear hi hz0 hz1 hz2
  go_upto_region 31 with (at_builtin; refine wpList_append_own _ rfl _ _ 22 rfl W.heap.size 5 i0 (.int .u8 0) 1 1 Ybad.underlying22 HI.out HZ0.out HZ1.out HZ2.out rfl (by decide) (.slice none 0 0) 0 [] rfl (World.ownsRow_nil _ _ _ _) ⟨bb, 0, none⟩ n n (xs.map (Value.int .u8)) rfl (by rw [List.length_map, Nat.mul_one]; exact HN.out.symm) (cells_at HBY.out) (by intro u hu; simp at hu; obtain ⟨x, _, rfl⟩ := hu; rfl) (by unfold maxLen; omega) (by omega) (Nat.le_refl _) ?_; intro v' w' hown hgr hnil; have HOW := hide hown; have HGR := hide hgr; clear hown hgr hnil)
  have hbw : Below W.heap.size W w' := (Below.refl W.heap.size W).grown HGR.out (Nat.le_refl _) (fun k hk => by cases hk)
  have hbl : Below w0.heap.size w0 w' := HBL.out.trans (hbw.mono HBL.out.size)
  have how := HOW.out
  rw [Nat.zero_add, List.nil_append] at how
  have hb := HBY.out.on hbw
  rcases owned_bytes how Hby.out HN.out with ⟨rfl, hn0⟩ | ⟨kb, ck, rfl, hkb⟩
  · have hx : xs = [] := List.eq_nil_of_length_eq_zero (by have := HN.out; omega)
    clear HOW HGR how HN HBY hbw hn1
    subst hx
    subst hn0
    apply st9_none (w0 := w0) (tg := tg) (tB := ⟨#[]⟩) (HZ := znext_short _ 0 0 w' (by omega)) (HE := fun db w'' hd' hb' => element_none db tg w'' (next_short db 0 0 _ w'' (cell_at hd' rfl) (by omega))) (hcb := Str.bytes hb) (hck := Str.nil w') (hBl := hbl) (hQ := rfl) (hK := by assumption)
  · cases hN : nextOf xs with
    | none =>
      apply st9_none (w0 := w0) (tg := tg) (tB := strOf xs) (HZ := znext_none bb 0 n n xs w' hb (Nat.le_refl _) hn1 hN) (HE := fun db w'' hd' hb' => element_none db tg w'' (next_none db bb 0 n n xs w'' (cell_at hd' rfl) (frozen_at hd') (hb.on hb') (Nat.le_refl _) hn1 hN)) (hcb := Str.bytes hb) (hck := Str.bytes hkb) (hBl := hbl) (hQ := rfl) (hK := by assumption)
    | some p =>
      obtain ⟨s, L⟩ := p
      apply st9_some (w0 := w0) (tg := tg) (a4 := a4) (a6 := a6) (bb := bb) (kb := kb) (xs := xs) (s := s) (L := L) (hN := hN) (P := ⟨HTZ.out, hbl, hb, Nat.le_refl _, hn1, hkb⟩) (hQ := rfl) (hK := by assumption)
end Go.Proofs.YbulkdphmDoor
