/-
  The law at a whole element.
-/
import Derived.Test.YbulkdphmDoorRows
import Derived.WalkKit
import Derived.ProofKit
import Derived.OpenShut
import Derived.WalkLawsBesides
import Derived.BigQuiet
import Derived.Laws.BitsAllLaws
import Derived.Laws.StructEq
import Derived.Outline
import Derived.Deep.RegionWith
import Derived.Deep.RegionHeld3
import Derived.Deep.DeepCutAuto
import Derived.Deep.DrawnRows
import Derived.Handy
import Derived.Laws.ResultCell
import Derived.Test.YbulkdphmDoorLawP
import Derived.Test.YbulkdphmDoorLawM2
import Derived.Test.YbulkdphmDoorLawM3
import Derived.Test.YbulkdphmDoorLawM4
import Derived.Test.YbulkdphmDoorLawM5
import Derived.Test.YbulkdphmDoorLawM6
import Derived.Test.YbulkdphmDoorLawM7
import Derived.Test.YbulkdphmDoorLawM8
namespace Go.Proofs.YbulkdphmDoor
open Go.ChangeShapes Go.WideShapes Go.ChangeAt Go.RowKit
open Go.ChangeMaps (setBlock)
set_option linter.unusedVariables false
set_option linter.unusedSimpArgs false


set_option maxRecDepth 100000 in
set_option maxHeartbeats 3200000 in
theorem st9_some (tg : Int) (w0 W : World) (a4 a6 : Addr) (bb kb n cb ck : Nat) (xs : List Int) (s L : Nat) (hN : nextOf xs = some (s, L)) (P : Hid (Pre w0 W a4 a6 bb kb n cb xs)) (u0 u1 u2 u3 u4 u5 u6 u7 u10 u11 u13 u14 u15 u16 u17 u18 u19 u20 u21 u22 u23 u24 u25 u26 u27 u28 u29 u30 u31 u32 u33 u34 u35 u36 u37 u38 u39 u40 u41 u42 u43 u44 u45 u46 u47 u48 u49 u50 u51 u52 u53 u54 u55 u56 u57 u58 u59 u60 u61 u62 u63 u64 u65 u66 u67 u68 u69 u70 u71 u72 u73 u74 u75 u76 u77 u78 u79 u80 u81 u82 u83 u84 u85 u86 u87 u88 u89 u90 u91 u92 u93 u94 u95 u96 u97 u98 u99 u100 u101 u102 u103 u104 u105 u106 u107 u108 u109 u110 u111 u112 u113 u114 u115 u116 u117 u118 u119 u120 u121 u122 u123 u124 u125 u126 u127 u128 u129 u130 u131 u132 u133 u134 u135 u136 u137 u138 u139 u140 u141 u142 u143 u144 u145 u146 u147 u148 u149 u150 u151 u152 u153 u154 u155 u156 u157 u158 u159 u160 u161 u162 u163 u164 u165 u166 u167 u168 u169 u170 u171 u172 u173 u174 u175 u176 u177 u178 u179 u180 u181 u182 u183 u184 u185 u186 u187 u188 u189 u190 u191 u192 u193 u194 u195 u196 u197 u198 u199 u200 u201 u202 u203 u204 u205 u206 u207 u208 u209 u210 u211 u212 u213 u214 u215 u216 u217 u218 u219 u220 u221 u222 u223 u224 u225 u226 u227 u228 u229 u230 u231 u232 u233 u234 u235 u236 u237 u238 u239 u240 u241 u242 u243 u244 u245 u246 u247 u248 u249 u250 u251 u252 u253 u254 u255 u256 : Value) (Q : Exit → Act → World → Prop) (hQ : Q = bodyPost Ybad.prog Ybad.f3 fun e w' => e = .returned (.bool true) ∧ Below w0.heap.size w0 w')
    (K : Act → World → Prop) (hK : ∀ a w, (tl 10 (Ybad.f3.body.getD .skip)).wp Ybad.prog Q a w → K a w) :
    (hd (tl 9 (Ybad.f3.body.getD .skip))).wp Ybad.prog (Exit.then K Q) { tmps := List.toArray (u0 :: u1 :: u2 :: u3 :: u4 :: u5 :: u6 :: u7 :: .int .u8 tg :: .slice (some ⟨bb, 0, none⟩) n cb :: u10 :: u11 :: .slice (some ⟨kb, 0, none⟩) n ck :: u13 :: u14 :: u15 :: u16 :: u17 :: u18 :: u19 :: u20 :: u21 :: u22 :: u23 :: u24 :: u25 :: u26 :: u27 :: u28 :: u29 :: u30 :: u31 :: u32 :: u33 :: u34 :: u35 :: u36 :: u37 :: u38 :: u39 :: u40 :: u41 :: u42 :: u43 :: u44 :: u45 :: u46 :: u47 :: u48 :: u49 :: u50 :: u51 :: u52 :: u53 :: u54 :: u55 :: u56 :: u57 :: u58 :: u59 :: u60 :: u61 :: u62 :: u63 :: u64 :: u65 :: u66 :: u67 :: u68 :: u69 :: u70 :: u71 :: u72 :: u73 :: u74 :: u75 :: u76 :: u77 :: u78 :: u79 :: u80 :: u81 :: u82 :: u83 :: u84 :: u85 :: u86 :: u87 :: u88 :: u89 :: u90 :: u91 :: u92 :: u93 :: u94 :: u95 :: u96 :: u97 :: u98 :: u99 :: u100 :: u101 :: u102 :: u103 :: u104 :: u105 :: u106 :: u107 :: u108 :: u109 :: u110 :: u111 :: u112 :: u113 :: u114 :: u115 :: u116 :: u117 :: u118 :: u119 :: u120 :: u121 :: u122 :: u123 :: u124 :: u125 :: u126 :: u127 :: u128 :: u129 :: u130 :: u131 :: u132 :: u133 :: u134 :: u135 :: u136 :: u137 :: u138 :: u139 :: u140 :: u141 :: u142 :: u143 :: u144 :: u145 :: u146 :: u147 :: u148 :: u149 :: u150 :: u151 :: u152 :: u153 :: u154 :: u155 :: u156 :: u157 :: u158 :: u159 :: u160 :: u161 :: u162 :: u163 :: u164 :: u165 :: u166 :: u167 :: u168 :: u169 :: u170 :: u171 :: u172 :: u173 :: u174 :: u175 :: u176 :: u177 :: u178 :: u179 :: u180 :: u181 :: u182 :: u183 :: u184 :: u185 :: u186 :: u187 :: u188 :: u189 :: u190 :: u191 :: u192 :: u193 :: u194 :: u195 :: u196 :: u197 :: u198 :: u199 :: u200 :: u201 :: u202 :: u203 :: u204 :: u205 :: u206 :: u207 :: u208 :: u209 :: u210 :: u211 :: u212 :: u213 :: u214 :: u215 :: u216 :: u217 :: u218 :: u219 :: u220 :: u221 :: u222 :: u223 :: u224 :: u225 :: u226 :: u227 :: u228 :: u229 :: u230 :: u231 :: u232 :: u233 :: u234 :: u235 :: u236 :: u237 :: u238 :: u239 :: u240 :: u241 :: u242 :: u243 :: u244 :: u245 :: u246 :: u247 :: u248 :: u249 :: u250 :: u251 :: u252 :: u253 :: u254 :: u255 :: u256 :: []), defers := [] } W := by
  dsimp only [Ybad.f3, Option.getD, tl, hd] at hK ⊢
  subst hQ
  have HZ := hide (znext_some bb 0 n cb xs W P.out.bs P.out.nc P.out.hn s L hN)
  obtain ⟨x0, hx0⟩ : ∃ x, x = xs.getD 0 0 := ⟨_, rfl⟩
  rw [← hx0] at HZ
  have HX0 := hide hx0
  have HN := hide hN
  clear hN hx0
  go_upto_region 32 with (go_at_call 4; refine HZ.out.mono ?_; rintro e w' ⟨o1, c1, o2, c2, q, rfl, rfl, hL, hb1, hb2⟩; have HL := hide hL; have HB1 := hide hb1; have HB2 := hide hb2; clear hL hb1 hb2)
  have hM := P.out.mid HN.out (c2 := c2) q HL.out HB1.out HB2.out
  obtain ⟨Wd, hWd⟩ : ∃ Wd, Wd = W.drewN q := ⟨_, rfl⟩
  have hsz : W.heap.size = Wd.heap.size := by rw [hWd]; rfl
  rw [← hWd, hsz] at hM
  rw [← hWd]
  obtain ⟨W5, hW5⟩ : ∃ W5, W5 = Wd.alloc (.cells #[.string ⟨#[]⟩, .string ⟨#[]⟩, .bool false] 27) := ⟨_, rfl⟩
  obtain ⟨wb, hwb⟩ : ∃ wb, wb = Wd.heap.size := ⟨_, rfl⟩
  obtain ⟨r, hr⟩ : ∃ r, r = n - (s + L) := ⟨_, rfl⟩
  rw [← hW5, ← hwb, ← hr] at hM
  rw [← hr]
  have HM := hide hM
  have HW5 := hide hW5
  have HWB := hide hwb
  clear hM hWd hsz hW5 hwb hr HL HB1 HB2 HZ
  go_upto_region 33 with fail
  rw [← HW5.out, ← HWB.out]
  go_upto_region 35 with fail
  by_cases hxt : x0 = tg
  · subst hxt
    have hx : xs.getD 0 0 = x0 := HX0.out.symm
    have hl1 := HM.out.b1.len
    have htab := (HM.out.tz W5 HM.out.bl).1
    have hfit := nextOf_fits HM.out.bs.byte HN.out
    have hlen := HM.out.bs.len
    have hn1 : L ≤ 1048576 := by have := HM.out.hn; omega
    have c5 := hide (call5 bb o1 L c1 _ W5 HM.out.b1 HM.out.lc hn1 htab)
    have c6 := hide (call6 bb o1 L c1 _ W5 HM.out.b1 HM.out.lc hn1 htab)
    have c7 := hide (call7 bb o1 L c1 _ W5 HM.out.b1 HM.out.lc hn1 htab)
    by_cases k2 : x0 = 2
    · subst k2
      apply st13_2 (w0 := w0) (a4 := a4) (a6 := a6) (bb := bb) (kb := kb) (s := s) (L := L) (xs := xs) (M := HM) (hx := hx) (sv := _) (ok := _) (HC := c5) (hs := rfl) (hk := rfl) (hQ := rfl) (hK := by assumption)
    by_cases k65 : x0 = 65
    · subst k65
      apply st13_65 (w0 := w0) (a4 := a4) (a6 := a6) (bb := bb) (kb := kb) (s := s) (L := L) (xs := xs) (M := HM) (hx := hx) (sv := _) (ok := _) (HC := c6) (hs := rfl) (hk := rfl) (hQ := rfl) (hK := by assumption)
    by_cases k66 : x0 = 66
    · subst k66
      apply st13_66 (w0 := w0) (a4 := a4) (a6 := a6) (bb := bb) (kb := kb) (s := s) (L := L) (xs := xs) (M := HM) (hx := hx) (sv := _) (ok := _) (HC := c6) (hs := rfl) (hk := rfl) (hQ := rfl) (hK := by assumption)
    by_cases k67 : x0 = 67
    · subst k67
      apply st13_67 (w0 := w0) (a4 := a4) (a6 := a6) (bb := bb) (kb := kb) (s := s) (L := L) (xs := xs) (M := HM) (hx := hx) (sv := _) (ok := _) (HC := c6) (hs := rfl) (hk := rfl) (hQ := rfl) (hK := by assumption)
    by_cases k70 : x0 = 70
    · subst k70
      apply st13_70 (w0 := w0) (a4 := a4) (a6 := a6) (bb := bb) (kb := kb) (s := s) (L := L) (xs := xs) (M := HM) (hx := hx) (sv := _) (ok := _) (HC := c6) (hs := rfl) (hk := rfl) (hQ := rfl) (hK := by assumption)
    by_cases k4 : x0 = 4
    · subst k4
      apply st13_4 (w0 := w0) (a4 := a4) (a6 := a6) (bb := bb) (kb := kb) (s := s) (L := L) (xs := xs) (M := HM) (hx := hx) (hQ := rfl) (hK := by assumption)
    by_cases k68 : x0 = 68
    · subst k68
      apply st13_68 (w0 := w0) (a4 := a4) (a6 := a6) (bb := bb) (kb := kb) (s := s) (L := L) (xs := xs) (M := HM) (hx := hx) (hQ := rfl) (hK := by assumption)
    by_cases k6 : x0 = 6
    · subst k6
      apply st13_6 (w0 := w0) (a4 := a4) (a6 := a6) (bb := bb) (kb := kb) (s := s) (L := L) (xs := xs) (M := HM) (hx := hx) (sv := _) (ok := _) (HC := c7) (hs := rfl) (hk := rfl) (hQ := rfl) (hK := by assumption)
    by_cases k64 : x0 = 64
    · subst k64
      by_cases h4 : L = 4
      · apply st13_64_4 (w0 := w0) (a4 := a4) (a6 := a6) (bb := bb) (kb := kb) (s := s) (L := L) (xs := xs) (M := HM) (hx := hx) (h4 := h4) (hQ := rfl) (hK := by assumption)
      · by_cases h16 : L = 16
        · apply st13_64_16 (w0 := w0) (a4 := a4) (a6 := a6) (bb := bb) (kb := kb) (s := s) (L := L) (xs := xs) (M := HM) (hx := hx) (h16 := h16) (hQ := rfl) (hK := by assumption)
        · apply st13_64_no (w0 := w0) (a4 := a4) (a6 := a6) (bb := bb) (kb := kb) (s := s) (L := L) (xs := xs) (M := HM) (hx := hx) (h4 := h4) (h16 := h16) (hQ := rfl) (hK := by assumption)
    by_cases k5 : x0 = 5
    · subst k5
      apply st13_5 (w0 := w0) (a4 := a4) (a6 := a6) (bb := bb) (kb := kb) (s := s) (L := L) (xs := xs) (M := HM) (hx := hx) (ok := decide (L = 0)) (hL := by by_cases h : L = 0 <;> simp [h]) (hk := congrArg (fun m : Nat => decide (m = 0)) hl1.symm) (hQ := rfl) (hK := by assumption)
    by_cases k128 : x0 = 128
    · subst k128
      apply st13_128 (w0 := w0) (a4 := a4) (a6 := a6) (bb := bb) (kb := kb) (s := s) (L := L) (xs := xs) (M := HM) (hx := hx) (ok := decide (L = 0)) (hL := by by_cases h : L = 0 <;> simp [h]) (hk := congrArg (fun m : Nat => decide (m = 0)) hl1.symm) (hQ := rfl) (hK := by assumption)
    by_cases k129 : x0 = 129
    · subst k129
      apply st13_129 (w0 := w0) (a4 := a4) (a6 := a6) (bb := bb) (kb := kb) (s := s) (L := L) (xs := xs) (M := HM) (hx := hx) (ok := decide (L = 0)) (hL := by by_cases h : L = 0 <;> simp [h]) (hk := congrArg (fun m : Nat => decide (m = 0)) hl1.symm) (hQ := rfl) (hK := by assumption)
    by_cases k130 : x0 = 130
    · subst k130
      apply st13_130 (w0 := w0) (a4 := a4) (a6 := a6) (bb := bb) (kb := kb) (s := s) (L := L) (xs := xs) (M := HM) (hx := hx) (ok := decide (L = 0)) (hL := by by_cases h : L = 0 <;> simp [h]) (hk := congrArg (fun m : Nat => decide (m = 0)) hl1.symm) (hQ := rfl) (hK := by assumption)
    apply st13_other (tg := x0) (w0 := w0) (a4 := a4) (a6 := a6) (bb := bb) (kb := kb) (s := s) (L := L) (xs := xs) (M := HM) (hx := hx) (ht := ⟨k2, k65, k66, k67, k70, k4, k68, k6, k64, k5, k128, k129, k130⟩) (hQ := rfl) (hK := by assumption)
  · apply st13_mism (tg := tg) (w0 := w0) (a4 := a4) (a6 := a6) (bb := bb) (kb := kb) (s := s) (L := L) (xs := xs) (M := HM) (x0 := x0) (hx := HX0.out.symm) (hne := hxt) (hQ := rfl) (hK := by assumption)
end Go.Proofs.YbulkdphmDoor
