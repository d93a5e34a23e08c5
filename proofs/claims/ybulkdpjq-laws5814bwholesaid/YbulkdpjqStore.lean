/-
  The times, the map, the entry, the store and the call of handedOn.
-/
import Derived.Test.YbulkdpjqRows
import Derived.WalkKit
import Derived.ProofKit
import Derived.OpenShut
import Derived.WalkLawsBesides
import Derived.BigQuiet
import Derived.Laws.BitsAllLaws
import Derived.Laws.StructEq
import Derived.Outline
import Derived.Test.YbulkdpjqHeap
import Derived.Test.YbulkdpjqAids
import Derived.Test.YbulkdpjqState
import Derived.Test.YbulkdpjqFew
import Derived.Test.YbulkdpjqHanded
import Derived.Test.YbulkdpjqRec
import Derived.Deep.RegionWith
import Derived.Deep.RegionHeld3
import Derived.Deep.DeepCutAuto
import Derived.Deep.DrawnRows
import Derived.Test.YbulkdpjqWant
namespace Go.Proofs.Ybulkdpjq
open Go.ChangeShapes Go.WideShapes Go.ChangeAt Go.RowKit
open Go.ChangeMaps (setBlock)
set_option linter.unusedVariables false

set_option maxRecDepth 100000 in
set_option maxHeartbeats 1600000 in
theorem stage20 (i : Inp) (ok : Hid i.Ok) (w0 W : World) (ib kb : Nat) (B : Hid (Base i w0 ib kb W)) (s8 : Value) (h8 : Made W s8 i.tR i.q13 i.v9 i.v10 i.xs9 i.xs10) (s9 : Value) (h9 : Made W s9 i.tR i.q13 i.v9 i.v10 i.xs9 i.xs10) (kk : Nat) (hkk : W.heap[kk]? = some (.cells (KC i.tS i.kS) 37)) (s11 : Value) (h11 : Hand i W s11) (s12 : Value) (h12 : Hand i W s12) (tb ub mb : Nat) (s16 : Value) (htb : W.heap[tb]? = some (.cells #[.int .u64 (i.H % 1000000000), .int .i64 (i.H / 1000000000), .pointer none] 40)) (hub : W.heap[ub]? = some (.cells #[.int .u64 (i.A % 1000000000), .int .i64 (i.A / 1000000000), .pointer none] 40)) (hE : Ents i W mb s11 s16) (vin u17 u18 u19 u20 u21 u22 u23 u24 u25 u26 u27 u28 u29 u30 u31 u32 u33 u34 u35 u36 u37 u38 u39 u40 u41 u42 u43 u44 u45 u46 u47 u48 u49 u50 u51 u52 u53 u54 u55 u56 u57 u58 u59 u60 u61 u62 u63 u64 u65 u66 u67 u68 u69 u70 u71 u72 u73 u74 u75 u76 u77 u78 u79 u80 u81 u82 u83 u84 u85 u86 u87 u88 u89 u90 u91 u92 u93 u94 u95 u96 u97 u98 u99 u100 u101 u102 u103 u104 u105 u106 u107 u108 u109 u110 u111 u112 u113 u114 u115 u116 u117 u118 u119 u120 u121 u122 u123 u124 u125 u126 u127 u128 u129 u130 u131 u132 u133 u134 u135 u136 u137 u138 u139 u140 u141 u142 u143 u144 u145 u146 u147 u148 u149 u150 u151 u152 u153 u154 u155 u156 u157 u158 u159 u160 u161 u162 u163 u164 u165 u166 u167 u168 u169 u170 u171 u172 u173 u174 u175 u176 u177 u178 u179 u180 u181 u182 u183 u184 u185 u186 u187 u188 u189 u190 u191 u192 u193 u194 u195 u196 u197 u198 u199 u200 u201 u202 u203 u204 u205 u206 u207 u208 u209 u210 u211 u212 u213 u214 u215 u216 u217 u218 u219 u220 u221 u222 u223 u224 u225 u226 u227 u228 u229 u230 u231 u232 u233 u234 u235 u236 u237 u238 u239 u240 u241 u242 u243 u244 u245 u246 u247 u248 u249 u250 u251 u252 u253 u254 u255 u256 u257 u258 u259 u260 u261 u262 u263 u264 u265 u266 u267 u268 u269 u270 u271 u272 u273 u274 u275 u276 u277 u278 u279 u280 u281 u282 u283 u284 u285 u286 u287 u288 u289 u290 u291 u292 u293 u294 u295 u296 u297 u298 u299 u300 u301 u302 u303 u304 : Value) (Q : Exit → Act → World → Prop) (hQ : Q = bodyPost Yba.prog Yba.f3 fun e w' => e = .returned (.bool true) ∧ Below w0.heap.size w0 w')
    (K : Act → World → Prop) (hK : ∀ a w, (tl 21 (Yba.f3.body.getD .skip)).wp Yba.prog Q a w → K a w) :
    (hd (tl 20 (Yba.f3.body.getD .skip))).wp Yba.prog (Exit.then K Q) { tmps := List.toArray (vin :: .pointer (some ⟨ib, 0, none⟩) :: .bool false :: .int .i64 i.H :: .int .i64 i.L :: .int .i64 i.A :: .string i.tR :: .pointer (some ⟨kb, 0, none⟩) :: s8 :: s9 :: .pointer (some ⟨kk, 0, none⟩) :: s11 :: s12 :: .pointer (some ⟨tb, 0, none⟩) :: .pointer (some ⟨ub, 0, none⟩) :: .map (some mb) :: s16 :: u17 :: u18 :: u19 :: u20 :: u21 :: u22 :: u23 :: u24 :: u25 :: u26 :: u27 :: u28 :: u29 :: u30 :: u31 :: u32 :: u33 :: u34 :: u35 :: u36 :: u37 :: u38 :: u39 :: u40 :: u41 :: u42 :: u43 :: u44 :: u45 :: u46 :: u47 :: u48 :: u49 :: u50 :: u51 :: u52 :: u53 :: u54 :: u55 :: u56 :: u57 :: u58 :: u59 :: u60 :: u61 :: u62 :: u63 :: u64 :: u65 :: u66 :: u67 :: u68 :: u69 :: u70 :: u71 :: u72 :: u73 :: u74 :: u75 :: u76 :: u77 :: u78 :: u79 :: u80 :: u81 :: u82 :: u83 :: u84 :: u85 :: u86 :: u87 :: u88 :: u89 :: u90 :: u91 :: u92 :: u93 :: u94 :: u95 :: u96 :: u97 :: u98 :: u99 :: u100 :: u101 :: u102 :: u103 :: u104 :: u105 :: u106 :: u107 :: u108 :: u109 :: u110 :: u111 :: u112 :: u113 :: u114 :: u115 :: u116 :: u117 :: u118 :: u119 :: u120 :: u121 :: u122 :: u123 :: u124 :: u125 :: u126 :: u127 :: u128 :: u129 :: u130 :: u131 :: u132 :: u133 :: u134 :: u135 :: u136 :: u137 :: u138 :: u139 :: u140 :: u141 :: u142 :: u143 :: u144 :: u145 :: u146 :: u147 :: u148 :: u149 :: u150 :: u151 :: u152 :: u153 :: u154 :: u155 :: u156 :: u157 :: u158 :: u159 :: u160 :: u161 :: u162 :: u163 :: u164 :: u165 :: u166 :: u167 :: u168 :: u169 :: u170 :: u171 :: u172 :: u173 :: u174 :: u175 :: u176 :: u177 :: u178 :: u179 :: u180 :: u181 :: u182 :: u183 :: u184 :: u185 :: u186 :: u187 :: u188 :: u189 :: u190 :: u191 :: u192 :: u193 :: u194 :: u195 :: u196 :: u197 :: u198 :: u199 :: u200 :: u201 :: u202 :: u203 :: u204 :: u205 :: u206 :: u207 :: u208 :: u209 :: u210 :: u211 :: u212 :: u213 :: u214 :: u215 :: u216 :: u217 :: u218 :: u219 :: u220 :: u221 :: u222 :: u223 :: u224 :: u225 :: u226 :: u227 :: u228 :: u229 :: u230 :: u231 :: u232 :: u233 :: u234 :: u235 :: u236 :: u237 :: u238 :: u239 :: u240 :: u241 :: u242 :: u243 :: u244 :: u245 :: u246 :: u247 :: u248 :: u249 :: u250 :: u251 :: u252 :: u253 :: u254 :: u255 :: u256 :: u257 :: u258 :: u259 :: u260 :: u261 :: u262 :: u263 :: u264 :: u265 :: u266 :: u267 :: u268 :: u269 :: u270 :: u271 :: u272 :: u273 :: u274 :: u275 :: u276 :: u277 :: u278 :: u279 :: u280 :: u281 :: u282 :: u283 :: u284 :: u285 :: u286 :: u287 :: u288 :: u289 :: u290 :: u291 :: u292 :: u293 :: u294 :: u295 :: u296 :: u297 :: u298 :: u299 :: u300 :: u301 :: u302 :: u303 :: u304 :: []), defers := [] } W := by
  have g8 : W.cell? ⟨ib, 16, none⟩ = some (.bool i.b16) := cell_at B.out.box rfl
  have t0 : W.cell? ⟨ub, 0, none⟩ = some (.int .u64 (i.A % 1000000000)) := cell_at hub rfl
  have t1 : W.cell? ⟨ub, 1, none⟩ = some (.int .i64 (i.A / 1000000000)) := cell_at hub rfl
  have t2 : W.cell? ⟨ub, 2, none⟩ = some (.pointer none) := cell_at hub rfl
  have b1 : ib < W.heap.size := lt_of_block B.out.box
  have b2 : ub < W.heap.size := lt_of_block hub
  replace h8 := hide h8
  replace h9 := hide h9
  replace hkk := hide hkk
  replace h11 := hide h11
  replace h12 := hide h12
  replace htb := hide htb
  replace hub := hide hub
  replace hE := hide hE
  dsimp only [Yba.f3, Option.getD, tl, hd] at hK ⊢
  subst hQ
  obtain ⟨vb, hvb⟩ : ∃ vb, vb = Value.agg (idC i.a3) := ⟨_, rfl⟩
  have HVB := hide hvb
  clear hvb
  obtain ⟨W1, hW1⟩ : ∃ W1, W1 = W.alloc (.cells (SC mb i.L) 55) := ⟨_, rfl⟩
  have GW : Hid (Grew W W1) := by rw [hW1]; exact (Grew.refl W).alloc _
  have HS : Hid (W1.heap[W.heap.size]? = some (.cells (SC mb i.L) 55)) := by rw [hW1]; exact hp_alloc_eq _ _
  have HO : Hid (Calls Yba.prog 7 #[.pointer (some ⟨W.heap.size, 0, none⟩), .agg (idC i.a3), s8, .bool i.b16, AT i.A] W1 fun e w' => e = .returned (.bool i.want) ∧ Grew W1 w') :=
    ho_all ok.out W.heap.size mb s8 s11 s16 W1 (cell_at HS.out rfl) (cell_at HS.out rfl) (h8.out.ext GW.out) (h11.out.ext GW.out) (hE.out.ext GW.out)
  rw [← HVB.out] at HO
  go_upto_region 31 with (first | (refine wpList_load_as (by rfl) 30 (.tmp 7) rfl kb 0 rfl (idC i.a3).toList _ (range_block (((Grew.refl W).alloc _).blk B.out.key)) Yba.underlying30 rfl info30 vb HVB.out ?_) | (go_at_call 7; rw [← hW1]; refine HO.out.mono ?_; rintro e w' ⟨rfl, hgw⟩))
  apply stage22 (ok := ok) (B := hide (B.out.ext (GW.out.trans hgw))) (h8 := h8.out.ext (GW.out.trans hgw)) (h9 := h9.out.ext (GW.out.trans hgw)) (hkk := (GW.out.trans hgw).blk hkk.out) (h11 := h11.out.ext (GW.out.trans hgw)) (h12 := h12.out.ext (GW.out.trans hgw)) (htb := (GW.out.trans hgw).blk htb.out) (hub := (GW.out.trans hgw).blk hub.out) (hE := hE.out.ext (GW.out.trans hgw)) (hsb := hgw.blk HS.out) (hQ := rfl) (hK := by assumption)

set_option maxRecDepth 100000 in
set_option maxHeartbeats 1600000 in
theorem stage15 (i : Inp) (ok : Hid i.Ok) (w0 W : World) (ib kb : Nat) (B : Hid (Base i w0 ib kb W)) (s8 : Value) (h8 : Made W s8 i.tR i.q13 i.v9 i.v10 i.xs9 i.xs10) (s9 : Value) (h9 : Made W s9 i.tR i.q13 i.v9 i.v10 i.xs9 i.xs10) (kk : Nat) (hkk : W.heap[kk]? = some (.cells (KC i.tS i.kS) 37)) (s11 : Value) (h11 : Hand i W s11) (s12 : Value) (h12 : Hand i W s12) (vin u13 u14 u15 u16 u17 u18 u19 u20 u21 u22 u23 u24 u25 u26 u27 u28 u29 u30 u31 u32 u33 u34 u35 u36 u37 u38 u39 u40 u41 u42 u43 u44 u45 u46 u47 u48 u49 u50 u51 u52 u53 u54 u55 u56 u57 u58 u59 u60 u61 u62 u63 u64 u65 u66 u67 u68 u69 u70 u71 u72 u73 u74 u75 u76 u77 u78 u79 u80 u81 u82 u83 u84 u85 u86 u87 u88 u89 u90 u91 u92 u93 u94 u95 u96 u97 u98 u99 u100 u101 u102 u103 u104 u105 u106 u107 u108 u109 u110 u111 u112 u113 u114 u115 u116 u117 u118 u119 u120 u121 u122 u123 u124 u125 u126 u127 u128 u129 u130 u131 u132 u133 u134 u135 u136 u137 u138 u139 u140 u141 u142 u143 u144 u145 u146 u147 u148 u149 u150 u151 u152 u153 u154 u155 u156 u157 u158 u159 u160 u161 u162 u163 u164 u165 u166 u167 u168 u169 u170 u171 u172 u173 u174 u175 u176 u177 u178 u179 u180 u181 u182 u183 u184 u185 u186 u187 u188 u189 u190 u191 u192 u193 u194 u195 u196 u197 u198 u199 u200 u201 u202 u203 u204 u205 u206 u207 u208 u209 u210 u211 u212 u213 u214 u215 u216 u217 u218 u219 u220 u221 u222 u223 u224 u225 u226 u227 u228 u229 u230 u231 u232 u233 u234 u235 u236 u237 u238 u239 u240 u241 u242 u243 u244 u245 u246 u247 u248 u249 u250 u251 u252 u253 u254 u255 u256 u257 u258 u259 u260 u261 u262 u263 u264 u265 u266 u267 u268 u269 u270 u271 u272 u273 u274 u275 u276 u277 u278 u279 u280 u281 u282 u283 u284 u285 u286 u287 u288 u289 u290 u291 u292 u293 u294 u295 u296 u297 u298 u299 u300 u301 u302 u303 u304 : Value) (Q : Exit → Act → World → Prop) (hQ : Q = bodyPost Yba.prog Yba.f3 fun e w' => e = .returned (.bool true) ∧ Below w0.heap.size w0 w')
    (K : Act → World → Prop) (hK : ∀ a w, (tl 16 (Yba.f3.body.getD .skip)).wp Yba.prog Q a w → K a w) :
    (hd (tl 15 (Yba.f3.body.getD .skip))).wp Yba.prog (Exit.then K Q) { tmps := List.toArray (vin :: .pointer (some ⟨ib, 0, none⟩) :: .bool false :: .int .i64 i.H :: .int .i64 i.L :: .int .i64 i.A :: .string i.tR :: .pointer (some ⟨kb, 0, none⟩) :: s8 :: s9 :: .pointer (some ⟨kk, 0, none⟩) :: s11 :: s12 :: u13 :: u14 :: u15 :: u16 :: u17 :: u18 :: u19 :: u20 :: u21 :: u22 :: u23 :: u24 :: u25 :: u26 :: u27 :: u28 :: u29 :: u30 :: u31 :: u32 :: u33 :: u34 :: u35 :: u36 :: u37 :: u38 :: u39 :: u40 :: u41 :: u42 :: u43 :: u44 :: u45 :: u46 :: u47 :: u48 :: u49 :: u50 :: u51 :: u52 :: u53 :: u54 :: u55 :: u56 :: u57 :: u58 :: u59 :: u60 :: u61 :: u62 :: u63 :: u64 :: u65 :: u66 :: u67 :: u68 :: u69 :: u70 :: u71 :: u72 :: u73 :: u74 :: u75 :: u76 :: u77 :: u78 :: u79 :: u80 :: u81 :: u82 :: u83 :: u84 :: u85 :: u86 :: u87 :: u88 :: u89 :: u90 :: u91 :: u92 :: u93 :: u94 :: u95 :: u96 :: u97 :: u98 :: u99 :: u100 :: u101 :: u102 :: u103 :: u104 :: u105 :: u106 :: u107 :: u108 :: u109 :: u110 :: u111 :: u112 :: u113 :: u114 :: u115 :: u116 :: u117 :: u118 :: u119 :: u120 :: u121 :: u122 :: u123 :: u124 :: u125 :: u126 :: u127 :: u128 :: u129 :: u130 :: u131 :: u132 :: u133 :: u134 :: u135 :: u136 :: u137 :: u138 :: u139 :: u140 :: u141 :: u142 :: u143 :: u144 :: u145 :: u146 :: u147 :: u148 :: u149 :: u150 :: u151 :: u152 :: u153 :: u154 :: u155 :: u156 :: u157 :: u158 :: u159 :: u160 :: u161 :: u162 :: u163 :: u164 :: u165 :: u166 :: u167 :: u168 :: u169 :: u170 :: u171 :: u172 :: u173 :: u174 :: u175 :: u176 :: u177 :: u178 :: u179 :: u180 :: u181 :: u182 :: u183 :: u184 :: u185 :: u186 :: u187 :: u188 :: u189 :: u190 :: u191 :: u192 :: u193 :: u194 :: u195 :: u196 :: u197 :: u198 :: u199 :: u200 :: u201 :: u202 :: u203 :: u204 :: u205 :: u206 :: u207 :: u208 :: u209 :: u210 :: u211 :: u212 :: u213 :: u214 :: u215 :: u216 :: u217 :: u218 :: u219 :: u220 :: u221 :: u222 :: u223 :: u224 :: u225 :: u226 :: u227 :: u228 :: u229 :: u230 :: u231 :: u232 :: u233 :: u234 :: u235 :: u236 :: u237 :: u238 :: u239 :: u240 :: u241 :: u242 :: u243 :: u244 :: u245 :: u246 :: u247 :: u248 :: u249 :: u250 :: u251 :: u252 :: u253 :: u254 :: u255 :: u256 :: u257 :: u258 :: u259 :: u260 :: u261 :: u262 :: u263 :: u264 :: u265 :: u266 :: u267 :: u268 :: u269 :: u270 :: u271 :: u272 :: u273 :: u274 :: u275 :: u276 :: u277 :: u278 :: u279 :: u280 :: u281 :: u282 :: u283 :: u284 :: u285 :: u286 :: u287 :: u288 :: u289 :: u290 :: u291 :: u292 :: u293 :: u294 :: u295 :: u296 :: u297 :: u298 :: u299 :: u300 :: u301 :: u302 :: u303 :: u304 :: []), defers := [] } W := by
  have g5 : Hid (∀ w', Grew W w' → w'.cell? ⟨ib, 5, none⟩ = some (.bool i.b5)) := fun w' hg => cell_at (hg.blk B.out.box) rfl
  have g15 : Hid (∀ w', Grew W w' → w'.cell? ⟨ib, 15, none⟩ = some (.bool i.b15)) := fun w' hg => cell_at (hg.blk B.out.box) rfl
  replace h8 := hide h8
  replace h9 := hide h9
  replace hkk := hide hkk
  replace h11 := hide h11
  replace h12 := hide h12
  dsimp only [Yba.f3, Option.getD, tl, hd] at hK ⊢
  subst hQ
  go_upto_region 23 with (first | (go_at_call 6; refine (add_zero i.H _ (Inp.H_ok ok.out)).mono ?_; rintro e w' ⟨rfl, C1, C2, hw'⟩) | (refine wpList_store_all rfl 40 (.tmp 13) (.tmp 141) rfl _ #[.int .u64 (i.H % 1000000000), .int .i64 (i.H / 1000000000), .pointer none] zeroT 40 rfl rfl (hp_alloc_at (by simp)) rfl info40 (one_T _ _) ?_; intro w1 hk1 kp1))
  subst hw'
  simp only [Act.put]
  have G1 : Hid (Grew W w1) := Grew.kept ((((Grew.refl W).alloc _).alloc _).alloc _) kp1 (by omega)
  obtain ⟨tb, htb⟩ : ∃ tb, tb = W.heap.size + 1 + 1 := ⟨_, rfl⟩
  rw [← htb] at hk1
  rw [← htb]
  have HT := hide hk1
  clear kp1 htb hk1
  go_upto_region 24 with (first | (go_at_call 6; refine (add_zero i.A _ (Inp.A_ok ok.out)).mono ?_; rintro e w' ⟨rfl, D1, D2, hw'⟩) | (refine wpList_store_all rfl 40 (.tmp 14) (.tmp 144) rfl _ #[.int .u64 (i.A % 1000000000), .int .i64 (i.A / 1000000000), .pointer none] zeroT 40 rfl rfl (hp_alloc_at (by simp)) rfl info40 (one_T _ _) ?_; intro w2 hk2 kp2))
  subst hw'
  simp only [Act.put]
  have G2 : Hid (Grew w1 w2) := Grew.kept ((((Grew.refl w1).alloc _).alloc _).alloc _) kp2 (by omega)
  obtain ⟨ub, hub⟩ : ∃ ub, ub = w1.heap.size + 1 + 1 := ⟨_, rfl⟩
  rw [← hub] at hk2
  rw [← hub]
  have HU := hide hk2
  clear kp2 hub hk2
  have MM := make43 w2
  go_upto_region 26 with fail
  clear MM
  obtain ⟨w3, hw3⟩ : ∃ w3, w3 = w2.alloc (.map #[] 0) := ⟨_, rfl⟩
  have G3 : Hid (Grew W w3) := by rw [hw3]; exact (G1.out.trans G2.out).alloc _
  have HM : Hid (w3.heap[w2.heap.size]? = some (.map #[] 0)) := by rw [hw3]; exact hp_alloc_eq _ _
  have HTT : Hid (w3.heap[tb]? = some (.cells #[.int .u64 (i.H % 1000000000), .int .i64 (i.H / 1000000000), .pointer none] 40)) := by rw [hw3]; exact ((G2.out).alloc _).blk HT.out
  have HUU : Hid (w3.heap[ub]? = some (.cells #[.int .u64 (i.A % 1000000000), .int .i64 (i.A / 1000000000), .pointer none] 40)) := by rw [hw3]; exact ((Grew.refl _).alloc _).blk HU.out
  rw [← hw3]
  obtain ⟨mb, hmb⟩ : ∃ mb, mb = w2.heap.size := ⟨_, rfl⟩
  rw [← hmb] at HM
  rw [← hmb]
  have LT : Hid (tb < mb ∧ ub < mb ∧ W.heap.size ≤ mb) := by
    have x1 := lt_of_block HT.out
    have x2 := lt_of_block HU.out
    have x3 := G2.out.size
    have x4 := G1.out.size
    exact ⟨by omega, by omega, by omega⟩
  clear hw3 hmb HT HU
  have g5' := g5.out _ G3.out
  have g15' := g15.out _ G3.out
  have t0 : w3.cell? ⟨tb, 0, none⟩ = some (.int .u64 (i.H % 1000000000)) := cell_at HTT.out rfl
  have t1 : w3.cell? ⟨tb, 1, none⟩ = some (.int .i64 (i.H / 1000000000)) := cell_at HTT.out rfl
  have t2 : w3.cell? ⟨tb, 2, none⟩ = some (.pointer none) := cell_at HTT.out rfl
  cases h5 : i.b5 with
  | false =>
    rw [h5] at g5'
    go_upto_region 29 with fail
    apply stage20 (ok := ok) (B := hide (B.out.ext (G3.out))) (h8 := h8.out.ext (G3.out)) (h9 := h9.out.ext (G3.out)) (hkk := (G3.out).blk hkk.out) (h11 := h11.out.ext (G3.out)) (h12 := h12.out.ext (G3.out)) (htb := HTT.out) (hub := HUU.out) (hE := .inr ⟨h5, rfl, HM.out⟩) (hQ := rfl) (hK := by assumption)
  | true =>
    rw [h5] at g5'
    go_upto_region 27 with fail
    obtain ⟨po, hpo⟩ : ∃ po, s11 = .pointer po := by
      rcases h11.out with ⟨h7, hb, v', g', e, _⟩ | ⟨h7, e⟩
      · exact ⟨_, e⟩
      · exact ⟨_, e⟩
    subst hpo
    go_upto_region 28 with (first | (refine wpList_load_as (by rfl) 37 (.tmp 10) rfl kk 0 rfl (KC i.tS i.kS).toList _ (range_block (G3.out.blk hkk.out)) Yba.underlying37 rfl info37 (.agg (KC i.tS i.kS)) rfl ?_))
    obtain ⟨w4, hw4⟩ : ∃ w4, w4 = w3.alloc (.cells (EC i.tS i.kS (.pointer po) i.H i.b15) 48) := ⟨_, rfl⟩
    have G4 : Hid (Grew w3 w4) := by rw [hw4]; exact (Grew.refl _).alloc _
    have HE4 : Hid (w4.heap[w3.heap.size]? = some (.cells (EC i.tS i.kS (.pointer po) i.H i.b15) 48)) := by rw [hw4]; exact hp_alloc_eq _ _
    rw [← hw4]
    obtain ⟨eb, heb⟩ : ∃ eb, eb = w3.heap.size := ⟨_, rfl⟩
    rw [← heb] at HE4
    rw [← heb]
    have LE : Hid (mb < eb) := by rw [heb]; exact lt_of_block HM.out
    obtain ⟨vk, hvk⟩ : ∃ vk, vk = Value.agg (KC i.tS i.kS) := ⟨_, rfl⟩
    have HPU : (Instr.mapUpdate 43 (.map (some mb)) vk (.pointer (some ⟨eb, 0, none⟩))).run Yba.prog w4 = .ok () (setBlock w4 mb (.map #[{ key := vk, val := .pointer (some ⟨eb, 0, none⟩), born := 0 }] 1)) := by
      rw [hvk]; exact run_put_first (G4.out.blk HM.out) i.tS i.kS i.tS_size (u8_wf (Inp.kS_ok ok.out)) _
    have HVK := hide hvk
    clear hw4 heb hvk t0 t1 t2 g15' g5'
    go_upto_region 29 with (first | (refine wpList_load_as (by rfl) 37 (.tmp 10) rfl kk 0 rfl (KC i.tS i.kS).toList _ (range_block ((G3.out.trans G4.out).blk hkk.out)) Yba.underlying37 rfl info37 vk HVK.out ?_))
    have G5 : Grew W (setBlock w4 mb (.map #[{ key := vk, val := .pointer (some ⟨eb, 0, none⟩), born := 0 }] 1)) := Grew.put (G3.out.trans G4.out) LT.out.2.2 _
    have L1 := LT.out
    have L2 := LE.out
    apply stage20 (ok := ok) (B := hide (B.out.ext (G5))) (h8 := h8.out.ext (G5)) (h9 := h9.out.ext (G5)) (hkk := (G5).blk hkk.out) (h11 := h11.out.ext (G5)) (h12 := h12.out.ext (G5)) (htb := (hp_setBlock_ne (by omega)).trans (G4.out.blk HTT.out)) (hub := (hp_setBlock_ne (by omega)).trans (G4.out.blk HUU.out)) (hE := .inl ⟨h5, eb, rfl, (hp_setBlock_ne (by omega)).trans HE4.out, (hp_setBlock_eq (lt_of_block (G4.out.blk HM.out))).trans (by rw [HVK.out])⟩) (hQ := rfl) (hK := by assumption)
end Go.Proofs.Ybulkdpjq
