/-
  The law at another tag.
-/
import Derived.Test.YbulkdphmDoorRows
import Derived.WalkKit
import Derived.ProofKit
import Derived.OpenShut
import Derived.WalkLawsBesides
import Derived.BigQuiet
import Derived.Laws.BitsAllLaws
import Derived.Laws.StructEq
import Derived.Outline
import Derived.Deep.RegionWith
import Derived.Deep.RegionHeld3
import Derived.Deep.DeepCutAuto
import Derived.Deep.DrawnRows
import Derived.Handy
import Derived.Laws.ResultCell
import Derived.Test.YbulkdphmDoorLawM
namespace Go.Proofs.YbulkdphmDoor
open Go.ChangeShapes Go.WideShapes Go.ChangeAt Go.RowKit
open Go.ChangeMaps (setBlock)
set_option linter.unusedVariables false
set_option linter.unusedSimpArgs false


set_option maxRecDepth 100000 in
set_option maxHeartbeats 3200000 in
theorem st13_other (tg : Int) (w0 W : World) (a4 a6 : Addr) (bb kb wb n cb ck s L o1 c1 o2 c2 r : Nat) (xs : List Int) (M : Hid (Mid w0 W a4 a6 bb kb wb n cb s L o1 c1 o2 c2 r xs)) (hx : xs.getD 0 0 = tg) (ht : tg ≠ 2 ∧ tg ≠ 65 ∧ tg ≠ 66 ∧ tg ≠ 67 ∧ tg ≠ 70 ∧ tg ≠ 4 ∧ tg ≠ 68 ∧ tg ≠ 6 ∧ tg ≠ 64 ∧ tg ≠ 5 ∧ tg ≠ 128 ∧ tg ≠ 129 ∧ tg ≠ 130) (u0 u1 u2 u3 u4 u5 u6 u7 u10 u11 u20 u21 u22 u23 u24 u25 u26 u27 u28 u29 u30 u31 u32 u33 u34 u35 u36 u37 u38 u39 u40 u41 u42 u43 u44 u45 u46 u47 u48 u49 u50 u51 u52 u53 u54 u55 u56 u57 u58 u59 u60 u61 u62 u63 u64 u65 u66 u67 u68 u69 u70 u71 u72 u73 u74 u75 u76 u77 u78 u79 u80 u81 u82 u83 u84 u85 u86 u87 u88 u89 u90 u91 u92 u93 u94 u95 u96 u97 u98 u99 u100 u101 u102 u103 u104 u105 u106 u107 u108 u109 u110 u111 u112 u113 u114 u115 u116 u117 u118 u119 u120 u121 u122 u123 u124 u125 u126 u127 u128 u129 u130 u131 u132 u133 u134 u135 u136 u137 u138 u139 u140 u141 u142 u143 u144 u145 u146 u147 u148 u149 u150 u151 u152 u153 u154 u155 u156 u157 u158 u159 u160 u161 u162 u163 u164 u165 u166 u167 u168 u169 u170 u171 u172 u173 u174 u175 u176 u177 u178 u179 u180 u181 u182 u183 u184 u185 u186 u187 u188 u189 u190 u191 u192 u193 u194 u195 u196 u197 u198 u199 u200 u201 u202 u203 u204 u205 u206 u207 u208 u209 u210 u211 u212 u213 u214 u215 u216 u217 u218 u219 u220 u221 u222 u223 u224 u225 u226 u227 u228 u229 u230 u231 u232 u233 u234 u235 u236 u237 u238 u239 u240 u241 u242 u243 u244 u245 u246 u247 u248 u249 u250 u251 u252 u253 u254 u255 u256 : Value) (Q : Exit → Act → World → Prop) (hQ : Q = bodyPost Ybad.prog Ybad.f3 fun e w' => e = .returned (.bool true) ∧ Below w0.heap.size w0 w')
    (K : Act → World → Prop) (hK : ∀ a w, (tl 14 (Ybad.f3.body.getD .skip)).wp Ybad.prog Q a w → K a w) :
    (hd (tl 13 (Ybad.f3.body.getD .skip))).wp Ybad.prog (Exit.then K Q) { tmps := List.toArray (u0 :: u1 :: u2 :: u3 :: u4 :: u5 :: u6 :: u7 :: .int .u8 tg :: .slice (some ⟨bb, 0, none⟩) n cb :: u10 :: u11 :: .slice (some ⟨kb, 0, none⟩) n ck :: .int .u8 tg :: .slice (some ⟨bb, o1, none⟩) L c1 :: .slice (some ⟨bb, o2, none⟩) r c2 :: .bool true :: .pointer (some ⟨wb, 0, none⟩) :: .bool false :: .bool true :: u20 :: u21 :: u22 :: u23 :: u24 :: u25 :: u26 :: u27 :: u28 :: u29 :: u30 :: u31 :: u32 :: u33 :: u34 :: u35 :: u36 :: u37 :: u38 :: u39 :: u40 :: u41 :: u42 :: u43 :: u44 :: u45 :: u46 :: u47 :: u48 :: u49 :: u50 :: u51 :: u52 :: u53 :: u54 :: u55 :: u56 :: u57 :: u58 :: u59 :: u60 :: u61 :: u62 :: u63 :: u64 :: u65 :: u66 :: u67 :: u68 :: u69 :: u70 :: u71 :: u72 :: u73 :: u74 :: u75 :: u76 :: u77 :: u78 :: u79 :: u80 :: u81 :: u82 :: u83 :: u84 :: u85 :: u86 :: u87 :: u88 :: u89 :: u90 :: u91 :: u92 :: u93 :: u94 :: u95 :: u96 :: u97 :: u98 :: u99 :: u100 :: u101 :: u102 :: u103 :: u104 :: u105 :: u106 :: u107 :: u108 :: u109 :: u110 :: u111 :: u112 :: u113 :: u114 :: u115 :: u116 :: u117 :: u118 :: u119 :: u120 :: u121 :: u122 :: u123 :: u124 :: u125 :: u126 :: u127 :: u128 :: u129 :: u130 :: u131 :: u132 :: u133 :: u134 :: u135 :: u136 :: u137 :: u138 :: u139 :: u140 :: u141 :: u142 :: u143 :: u144 :: u145 :: u146 :: u147 :: u148 :: u149 :: u150 :: u151 :: u152 :: u153 :: u154 :: u155 :: u156 :: u157 :: u158 :: u159 :: u160 :: u161 :: u162 :: u163 :: u164 :: u165 :: u166 :: u167 :: u168 :: u169 :: u170 :: u171 :: u172 :: u173 :: u174 :: u175 :: u176 :: u177 :: u178 :: u179 :: u180 :: u181 :: u182 :: u183 :: u184 :: u185 :: u186 :: u187 :: u188 :: u189 :: u190 :: u191 :: u192 :: u193 :: u194 :: u195 :: u196 :: u197 :: u198 :: u199 :: u200 :: u201 :: u202 :: u203 :: u204 :: u205 :: u206 :: u207 :: u208 :: u209 :: u210 :: u211 :: u212 :: u213 :: u214 :: u215 :: u216 :: u217 :: u218 :: u219 :: u220 :: u221 :: u222 :: u223 :: u224 :: u225 :: u226 :: u227 :: u228 :: u229 :: u230 :: u231 :: u232 :: u233 :: u234 :: u235 :: u236 :: u237 :: u238 :: u239 :: u240 :: u241 :: u242 :: u243 :: u244 :: u245 :: u246 :: u247 :: u248 :: u249 :: u250 :: u251 :: u252 :: u253 :: u254 :: u255 :: u256 :: []), defers := [] } W := by
  dsimp only [Ybad.f3, Option.getD, tl, hd] at hK ⊢
  subst hQ
  obtain ⟨k2, k65, k66, k67, k70, k4, k68, k6, k64, k5, k128, k129, k130⟩ := ht
  have hA : Hid (Agree tg (xs.getD 0 0) ((xs.take (s + L)).drop s) ⟨#[]⟩ false false true) := Agree.yes hx (by simp [pvN, k2, k65, k66, k67, k70, k4, k68, k6, k64, k5, k128, k129, k130]) (by simp [pvK, k2, k65, k66, k67, k70, k4, k68, k6, k64, k5, k128, k129, k130]) (fun _ => by simp [pvS, k2, k65, k66, k67, k70, k4, k68, k6, k64, k5, k128, k129, k130])
  have j2 : (tg == 2) = false := by simp [k2]
  have j65 : (tg == 65) = false := by simp [k65]
  have j66 : (tg == 66) = false := by simp [k66]
  have j67 : (tg == 67) = false := by simp [k67]
  have j70 : (tg == 70) = false := by simp [k70]
  have j4 : (tg == 4) = false := by simp [k4]
  have j68 : (tg == 68) = false := by simp [k68]
  have j6 : (tg == 6) = false := by simp [k6]
  have j64 : (tg == 64) = false := by simp [k64]
  have j5 : (tg == 5) = false := by simp [k5]
  have j128 : (tg == 128) = false := by simp [k128]
  have j129 : (tg == 129) = false := by simp [k129]
  have j130 : (tg == 130) = false := by simp [k130]
  have jj : (tg == tg) = true := by simp
  clear hx k2 k65 k66 k67 k70 k4 k68 k6 k64 k5 k128 k129 k130
  go_upto_region 72 with fail
  have F := M.out.fin (Kept.refl _ W) ck tg ⟨#[]⟩ false false true M.out.wz hA.out
  apply tail15 (w0 := w0) (wv := ⟨#[]⟩) (wn := false) (wok := false) (chk := true) (tB := strOf xs) (tR := strOf (xs.drop (s + L))) (hwb := F.fwb) (hBl := F.fbl) (HV := F.fhv) (hcb := F.fcb) (hck := F.fck) (hcr := F.fcr) (hQ := rfl) (hK := by assumption)

set_option maxRecDepth 100000 in
set_option maxHeartbeats 3200000 in
theorem st13_mism (tg : Int) (w0 W : World) (a4 a6 : Addr) (bb kb wb n cb ck s L o1 c1 o2 c2 r : Nat) (xs : List Int) (M : Hid (Mid w0 W a4 a6 bb kb wb n cb s L o1 c1 o2 c2 r xs)) (x0 : Int) (hx : xs.getD 0 0 = x0) (hne : x0 ≠ tg) (u0 u1 u2 u3 u4 u5 u6 u7 u10 u11 u20 u21 u22 u23 u24 u25 u26 u27 u28 u29 u30 u31 u32 u33 u34 u35 u36 u37 u38 u39 u40 u41 u42 u43 u44 u45 u46 u47 u48 u49 u50 u51 u52 u53 u54 u55 u56 u57 u58 u59 u60 u61 u62 u63 u64 u65 u66 u67 u68 u69 u70 u71 u72 u73 u74 u75 u76 u77 u78 u79 u80 u81 u82 u83 u84 u85 u86 u87 u88 u89 u90 u91 u92 u93 u94 u95 u96 u97 u98 u99 u100 u101 u102 u103 u104 u105 u106 u107 u108 u109 u110 u111 u112 u113 u114 u115 u116 u117 u118 u119 u120 u121 u122 u123 u124 u125 u126 u127 u128 u129 u130 u131 u132 u133 u134 u135 u136 u137 u138 u139 u140 u141 u142 u143 u144 u145 u146 u147 u148 u149 u150 u151 u152 u153 u154 u155 u156 u157 u158 u159 u160 u161 u162 u163 u164 u165 u166 u167 u168 u169 u170 u171 u172 u173 u174 u175 u176 u177 u178 u179 u180 u181 u182 u183 u184 u185 u186 u187 u188 u189 u190 u191 u192 u193 u194 u195 u196 u197 u198 u199 u200 u201 u202 u203 u204 u205 u206 u207 u208 u209 u210 u211 u212 u213 u214 u215 u216 u217 u218 u219 u220 u221 u222 u223 u224 u225 u226 u227 u228 u229 u230 u231 u232 u233 u234 u235 u236 u237 u238 u239 u240 u241 u242 u243 u244 u245 u246 u247 u248 u249 u250 u251 u252 u253 u254 u255 u256 : Value) (Q : Exit → Act → World → Prop) (hQ : Q = bodyPost Ybad.prog Ybad.f3 fun e w' => e = .returned (.bool true) ∧ Below w0.heap.size w0 w')
    (K : Act → World → Prop) (hK : ∀ a w, (tl 14 (Ybad.f3.body.getD .skip)).wp Ybad.prog Q a w → K a w) :
    (hd (tl 13 (Ybad.f3.body.getD .skip))).wp Ybad.prog (Exit.then K Q) { tmps := List.toArray (u0 :: u1 :: u2 :: u3 :: u4 :: u5 :: u6 :: u7 :: .int .u8 tg :: .slice (some ⟨bb, 0, none⟩) n cb :: u10 :: u11 :: .slice (some ⟨kb, 0, none⟩) n ck :: .int .u8 x0 :: .slice (some ⟨bb, o1, none⟩) L c1 :: .slice (some ⟨bb, o2, none⟩) r c2 :: .bool true :: .pointer (some ⟨wb, 0, none⟩) :: .bool false :: .bool true :: u20 :: u21 :: u22 :: u23 :: u24 :: u25 :: u26 :: u27 :: u28 :: u29 :: u30 :: u31 :: u32 :: u33 :: u34 :: u35 :: u36 :: u37 :: u38 :: u39 :: u40 :: u41 :: u42 :: u43 :: u44 :: u45 :: u46 :: u47 :: u48 :: u49 :: u50 :: u51 :: u52 :: u53 :: u54 :: u55 :: u56 :: u57 :: u58 :: u59 :: u60 :: u61 :: u62 :: u63 :: u64 :: u65 :: u66 :: u67 :: u68 :: u69 :: u70 :: u71 :: u72 :: u73 :: u74 :: u75 :: u76 :: u77 :: u78 :: u79 :: u80 :: u81 :: u82 :: u83 :: u84 :: u85 :: u86 :: u87 :: u88 :: u89 :: u90 :: u91 :: u92 :: u93 :: u94 :: u95 :: u96 :: u97 :: u98 :: u99 :: u100 :: u101 :: u102 :: u103 :: u104 :: u105 :: u106 :: u107 :: u108 :: u109 :: u110 :: u111 :: u112 :: u113 :: u114 :: u115 :: u116 :: u117 :: u118 :: u119 :: u120 :: u121 :: u122 :: u123 :: u124 :: u125 :: u126 :: u127 :: u128 :: u129 :: u130 :: u131 :: u132 :: u133 :: u134 :: u135 :: u136 :: u137 :: u138 :: u139 :: u140 :: u141 :: u142 :: u143 :: u144 :: u145 :: u146 :: u147 :: u148 :: u149 :: u150 :: u151 :: u152 :: u153 :: u154 :: u155 :: u156 :: u157 :: u158 :: u159 :: u160 :: u161 :: u162 :: u163 :: u164 :: u165 :: u166 :: u167 :: u168 :: u169 :: u170 :: u171 :: u172 :: u173 :: u174 :: u175 :: u176 :: u177 :: u178 :: u179 :: u180 :: u181 :: u182 :: u183 :: u184 :: u185 :: u186 :: u187 :: u188 :: u189 :: u190 :: u191 :: u192 :: u193 :: u194 :: u195 :: u196 :: u197 :: u198 :: u199 :: u200 :: u201 :: u202 :: u203 :: u204 :: u205 :: u206 :: u207 :: u208 :: u209 :: u210 :: u211 :: u212 :: u213 :: u214 :: u215 :: u216 :: u217 :: u218 :: u219 :: u220 :: u221 :: u222 :: u223 :: u224 :: u225 :: u226 :: u227 :: u228 :: u229 :: u230 :: u231 :: u232 :: u233 :: u234 :: u235 :: u236 :: u237 :: u238 :: u239 :: u240 :: u241 :: u242 :: u243 :: u244 :: u245 :: u246 :: u247 :: u248 :: u249 :: u250 :: u251 :: u252 :: u253 :: u254 :: u255 :: u256 :: []), defers := [] } W := by
  dsimp only [Ybad.f3, Option.getD, tl, hd] at hK ⊢
  subst hQ
  have hA : Hid (Agree tg (xs.getD 0 0) ((xs.take (s + L)).drop s) ⟨#[]⟩ false false true) := Agree.no (by rw [hx]; exact hne)
  have jj : (x0 == tg) = false := by simp [hne]
  clear hx hne
  go_upto_region 72 with fail
  have F := M.out.fin (Kept.refl _ W) ck tg ⟨#[]⟩ false false true M.out.wz hA.out
  apply tail15 (w0 := w0) (wv := ⟨#[]⟩) (wn := false) (wok := false) (chk := true) (tB := strOf xs) (tR := strOf (xs.drop (s + L))) (hwb := F.fwb) (hBl := F.fbl) (HV := F.fhv) (hcb := F.fcb) (hck := F.fck) (hcr := F.fcr) (hQ := rfl) (hK := by assumption)
end Go.Proofs.YbulkdphmDoor
