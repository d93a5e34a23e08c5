/-
  The law lays its row.
-/
import Derived.Test.YbulkdpksRows
import Derived.WalkKit
import Derived.ProofKit
import Derived.OpenShut
import Derived.WalkLawsBesides
import Derived.BigQuiet
import Derived.Laws.BitsAllLaws
import Derived.Laws.StructEq
import Derived.Outline
import Derived.Test.YbulkdpksMake
import Derived.Deep.RegionWith
import Derived.Deep.RegionHeld3
import Derived.Deep.DeepCutAuto
import Derived.Deep.DrawnRows
namespace Go.Proofs.Ybulkdpks
open Go.ChangeShapes Go.WideShapes Go.ChangeAt Go.RowKit
open Go.ChangeMaps (setBlock)
set_option linter.unusedVariables false


theorem mod_ne {h i j L : Nat} (hh : h < L) (hi : i < j) (hj : j < L) : (h + i) % L ≠ (h + j) % L := by
  intro he
  rcases Nat.lt_or_ge (h + i) L with a | a <;> rcases Nat.lt_or_ge (h + j) L with b | b
  · rw [Nat.mod_eq_of_lt a, Nat.mod_eq_of_lt b] at he
    omega
  · rw [Nat.mod_eq_of_lt a, Nat.mod_eq_sub_mod b, Nat.mod_eq_of_lt (by omega)] at he
    omega
  · omega
  · rw [Nat.mod_eq_sub_mod a, Nat.mod_eq_sub_mod b, Nat.mod_eq_of_lt (a := h + i - L) (by omega), Nat.mod_eq_of_lt (a := h + j - L) (by omega)] at he
    omega

/-- The row's first j jobs are laid. -/
def Fill (w0 : World) (bb L h j : Nat) (v : World) : Prop := ∃ f : Nat → Int, v.heap[bb]? = some (.cells (jobs f L).toArray 32) ∧ v.heap.size = bb + 1 ∧ Below w0.heap.size w0 v ∧ ∀ i, i < j → f ((h + i) % L) = 1000 + i

theorem Fill.step {w0 : World} {bb L h j : Nat} {v : World} (hf : Fill w0 bb L h j v) (hh : h < L) (hj : j < L) (h0 : w0.heap.size ≤ bb) :
    Fill w0 bb L h (j + 1) ((v.setCell ⟨bb, (h + j) % L * 2, none⟩ (.int .i64 (1000 + (j : Int)))).setCell ⟨bb, (h + j) % L * 2 + 1, none⟩ (.pointer none)) := by
  obtain ⟨f, h1, h2, h3, h4⟩ := hf
  refine ⟨fun q => if q = (h + j) % L then 1000 + (j : Int) else f q, ?_, ?_, ?_, ?_⟩
  · rw [hp_setCell_eq (hp_setCell_eq h1), jobs_set _ _ _ _ (Nat.mod_lt _ (by omega))]
  · rw [size_setCell, size_setCell]; exact h2
  · exact Below.setCell (Below.setCell h3 h0 _) h0 _
  · intro i hi
    by_cases e : i = j
    · rw [e]; exact if_pos rfl
    · rw [← h4 i (by omega)]
      exact if_neg (mod_ne hh (by omega) hj)

set_option maxRecDepth 100000 in
set_option maxHeartbeats 3200000 in
theorem stage6_zero (slow : Bool) (room : Int) (aw np k hd0 : Nat) (done t : Int) (w0 W : World) (L : Nat) (n1 : np ≤ 255) (k1 : k ≤ 255) (a1 : aw ≤ 255) (d1 : hd0 ≤ 255) (r0 : -9223372036854775808 ≤ room) (r1 : room ≤ 9223372036854775807) (hsz : w0.heap.size = W.heap.size) (hBl : Below w0.heap.size w0 W) (hk0 : k = 0) (hL0 : L = 0) (u8 u9 u10 u11 u12 u13 u14 u15 u21 u22 u23 u24 u25 u26 u27 u28 u29 u30 u31 u32 u33 u34 u35 u36 u37 u38 u39 u40 u41 u42 u43 u44 u45 u46 u47 u48 u49 u50 u51 u52 u53 u54 u55 u56 u57 u58 u59 u60 u61 u62 u63 u64 u65 u66 u67 u68 u69 u70 u71 u72 u73 u74 u75 u76 u77 u78 u79 u80 u81 u82 u83 u84 u85 u86 u87 u88 u89 u90 u91 u92 u93 u94 u95 u96 u97 u98 u99 u100 u101 u102 u103 u104 u105 u106 u107 u108 u109 u110 u111 u112 u113 u114 u115 u116 u117 u118 u119 u120 u121 u122 u123 u124 u125 u126 u127 u128 u129 u130 u131 u132 u133 u134 u135 u136 u137 u138 u139 u140 u141 u142 u143 u144 u145 u146 u147 u148 u149 u150 u151 u152 u153 u154 u155 u156 u157 u158 u159 u160 u161 u162 u163 u164 u165 u166 u167 u168 u169 u170 u171 u172 u173 u174 u175 u176 u177 u178 u179 u180 u181 u182 u183 u184 u185 u186 u187 u188 u189 u190 u191 u192 u193 u194 u195 u196 u197 u198 u199 u200 u201 u202 u203 u204 u205 u206 u207 u208 u209 u210 u211 u212 u213 u214 u215 u216 u217 u218 u219 u220 u221 u222 u223 u224 u225 u226 u227 u228 u229 u230 u231 u232 u233 u234 u235 u236 u237 u238 u239 u240 u241 u242 u243 u244 u245 u246 u247 u248 u249 u250 u251 u252 u253 u254 u255 u256 u257 u258 u259 u260 u261 u262 u263 u264 u265 u266 u267 u268 u269 u270 u271 u272 u273 u274 u275 u276 u277 u278 u279 u280 u281 u282 u283 u284 u285 u286 u287 u288 u289 u290 u291 u292 u293 u294 u295 u296 u297 u298 u299 u300 u301 u302 u303 u304 u305 u306 u307 u308 u309 u310 u311 u312 u313 u314 u315 u316 u317 u318 u319 u320 u321 u322 u323 u324 u325 u326 u327 u328 u329 u330 : Value) (Q : Exit → Act → World → Prop) (hQ : Q = bodyPost Yba.prog Yba.f4 fun e w' => e = .returned (.bool true) ∧ Below w0.heap.size w0 w')
    (K : Act → World → Prop) (hK : ∀ a w, (tl 7 (Yba.f4.body.getD .skip)).wp Yba.prog Q a w → K a w) :
    (hd (tl 6 (Yba.f4.body.getD .skip))).wp Yba.prog (Exit.then K Q) { tmps := List.toArray (.bool slow :: .int .i64 room :: .int .u8 (aw : Nat) :: .int .u8 (np : Nat) :: .int .u8 (k : Nat) :: .int .u8 (hd0 : Nat) :: .int .u64 done :: .int .i64 t :: u8 :: u9 :: u10 :: u11 :: u12 :: u13 :: u14 :: u15 :: .bool false :: .int .i64 (np : Nat) :: .int .i64 (k : Nat) :: .int .i64 (aw : Nat) :: .int .i64 (L : Nat) :: u21 :: u22 :: u23 :: u24 :: u25 :: u26 :: u27 :: u28 :: u29 :: u30 :: u31 :: u32 :: u33 :: u34 :: u35 :: u36 :: u37 :: u38 :: u39 :: u40 :: u41 :: u42 :: u43 :: u44 :: u45 :: u46 :: u47 :: u48 :: u49 :: u50 :: u51 :: u52 :: u53 :: u54 :: u55 :: u56 :: u57 :: u58 :: u59 :: u60 :: u61 :: u62 :: u63 :: u64 :: u65 :: u66 :: u67 :: u68 :: u69 :: u70 :: u71 :: u72 :: u73 :: u74 :: u75 :: u76 :: u77 :: u78 :: u79 :: u80 :: u81 :: u82 :: u83 :: u84 :: u85 :: u86 :: u87 :: u88 :: u89 :: u90 :: u91 :: u92 :: u93 :: u94 :: u95 :: u96 :: u97 :: u98 :: u99 :: u100 :: u101 :: u102 :: u103 :: u104 :: u105 :: u106 :: u107 :: u108 :: u109 :: u110 :: u111 :: u112 :: u113 :: u114 :: u115 :: u116 :: u117 :: u118 :: u119 :: u120 :: u121 :: u122 :: u123 :: u124 :: u125 :: u126 :: u127 :: u128 :: u129 :: u130 :: u131 :: u132 :: u133 :: u134 :: u135 :: u136 :: u137 :: u138 :: u139 :: u140 :: u141 :: u142 :: u143 :: u144 :: u145 :: u146 :: u147 :: u148 :: u149 :: u150 :: u151 :: u152 :: u153 :: u154 :: u155 :: u156 :: u157 :: u158 :: u159 :: u160 :: u161 :: u162 :: u163 :: u164 :: u165 :: u166 :: u167 :: u168 :: u169 :: u170 :: u171 :: u172 :: u173 :: u174 :: u175 :: u176 :: u177 :: u178 :: u179 :: u180 :: u181 :: u182 :: u183 :: u184 :: u185 :: u186 :: u187 :: u188 :: u189 :: u190 :: u191 :: u192 :: u193 :: u194 :: u195 :: u196 :: u197 :: u198 :: u199 :: u200 :: u201 :: u202 :: u203 :: u204 :: u205 :: u206 :: u207 :: u208 :: u209 :: u210 :: u211 :: u212 :: u213 :: u214 :: u215 :: u216 :: u217 :: u218 :: u219 :: u220 :: u221 :: u222 :: u223 :: u224 :: u225 :: u226 :: u227 :: u228 :: u229 :: u230 :: u231 :: u232 :: u233 :: u234 :: u235 :: u236 :: u237 :: u238 :: u239 :: u240 :: u241 :: u242 :: u243 :: u244 :: u245 :: u246 :: u247 :: u248 :: u249 :: u250 :: u251 :: u252 :: u253 :: u254 :: u255 :: u256 :: u257 :: u258 :: u259 :: u260 :: u261 :: u262 :: u263 :: u264 :: u265 :: u266 :: u267 :: u268 :: u269 :: u270 :: u271 :: u272 :: u273 :: u274 :: u275 :: u276 :: u277 :: u278 :: u279 :: u280 :: u281 :: u282 :: u283 :: u284 :: u285 :: u286 :: u287 :: u288 :: u289 :: u290 :: u291 :: u292 :: u293 :: u294 :: u295 :: u296 :: u297 :: u298 :: u299 :: u300 :: u301 :: u302 :: u303 :: u304 :: u305 :: u306 :: u307 :: u308 :: u309 :: u310 :: u311 :: u312 :: u313 :: u314 :: u315 :: u316 :: u317 :: u318 :: u319 :: u320 :: u321 :: u322 :: u323 :: u324 :: u325 :: u326 :: u327 :: u328 :: u329 :: u330 :: []), defers := [] } W := by
  dsimp only [Yba.f4, Option.getD, tl, hd] at hK ⊢
  subst hQ
  obtain ⟨W1, hW1⟩ : ∃ W1, W1 = W.alloc (.cells (jobs (fun _ => 0) L).toArray 32) := ⟨_, rfl⟩
  obtain ⟨bb, hbb⟩ : ∃ bb, bb = W.heap.size := ⟨_, rfl⟩
  have hmk := make_jobs L (by omega) W
  rw [← hW1, ← hbb] at hmk
  have z1 : W1.heap.size = bb + 1 := by rw [hW1, hbb]; simp
  have hb1 : W1.heap[bb]? = some (.cells (jobs (fun _ => 0) L).toArray 32) := by rw [hW1]; exact hp_alloc_at hbb
  have hBl1 : Below w0.heap.size w0 W1 := by rw [hW1]; exact Below.alloc hBl hBl.size _
  have hb0 : w0.heap.size ≤ bb := by omega
  clear hW1 hbb hsz hBl
  have HB1 := hide hb1
  have HZ1 := hide z1
  have HBl1 := hide hBl1
  have hk' : ¬ (0 : Int) < (k : Int) := by omega
  have hL' : ¬ (0 : Int) < (L : Int) := by omega
  have HK0 := hide hk0
  have HL0 := hide hL0
  clear hb1 z1 hBl1 hk0 hL0
  go_wp2_with fail
  go_loop [23] (fun v => v = .int .i64 0) (fun _ => 0)
  case atStart => rfl
  case round =>
    subst hrel
    go_upto_region 17 with fail
    apply stage10 (slow := slow) (room := room) (aw := aw) (np := np) (k := k) (hd0 := hd0) (done := done) (t := t) (w0 := w0) (L := L) (h := 0) (bb := bb) (f := fun _ => 0) (n1 := n1) (k1 := k1) (a1 := a1) (r0 := r0) (r1 := r1) (hb0 := hb0) (hsz := HZ1.out) (hQ := rfl) (hK := by assumption) (hBb := HB1.out) (row := Or.inl ⟨HL0.out, rfl, HK0.out⟩) (hf := fun i hi => by have := HK0.out; omega) (hBl := HBl1.out)

set_option maxRecDepth 100000 in
set_option maxHeartbeats 3200000 in
theorem stage6_pos (slow : Bool) (room : Int) (aw np k hd0 : Nat) (done t : Int) (w0 W : World) (e : Nat) (L : Nat) (n1 : np ≤ 255) (k1 : k ≤ 255) (a1 : aw ≤ 255) (d1 : hd0 ≤ 255) (r0 : -9223372036854775808 ≤ room) (r1 : room ≤ 9223372036854775807) (hsz : w0.heap.size = W.heap.size) (hBl : Below w0.heap.size w0 W) (e3 : 3 ≤ e) (e9 : e ≤ 9) (hL : L = 2 ^ e) (hkL : k ≤ L) (u8 u9 u10 u11 u12 u13 u14 u15 u21 u22 u23 u24 u25 u26 u27 u28 u29 u30 u31 u32 u33 u34 u35 u36 u37 u38 u39 u40 u41 u42 u43 u44 u45 u46 u47 u48 u49 u50 u51 u52 u53 u54 u55 u56 u57 u58 u59 u60 u61 u62 u63 u64 u65 u66 u67 u68 u69 u70 u71 u72 u73 u74 u75 u76 u77 u78 u79 u80 u81 u82 u83 u84 u85 u86 u87 u88 u89 u90 u91 u92 u93 u94 u95 u96 u97 u98 u99 u100 u101 u102 u103 u104 u105 u106 u107 u108 u109 u110 u111 u112 u113 u114 u115 u116 u117 u118 u119 u120 u121 u122 u123 u124 u125 u126 u127 u128 u129 u130 u131 u132 u133 u134 u135 u136 u137 u138 u139 u140 u141 u142 u143 u144 u145 u146 u147 u148 u149 u150 u151 u152 u153 u154 u155 u156 u157 u158 u159 u160 u161 u162 u163 u164 u165 u166 u167 u168 u169 u170 u171 u172 u173 u174 u175 u176 u177 u178 u179 u180 u181 u182 u183 u184 u185 u186 u187 u188 u189 u190 u191 u192 u193 u194 u195 u196 u197 u198 u199 u200 u201 u202 u203 u204 u205 u206 u207 u208 u209 u210 u211 u212 u213 u214 u215 u216 u217 u218 u219 u220 u221 u222 u223 u224 u225 u226 u227 u228 u229 u230 u231 u232 u233 u234 u235 u236 u237 u238 u239 u240 u241 u242 u243 u244 u245 u246 u247 u248 u249 u250 u251 u252 u253 u254 u255 u256 u257 u258 u259 u260 u261 u262 u263 u264 u265 u266 u267 u268 u269 u270 u271 u272 u273 u274 u275 u276 u277 u278 u279 u280 u281 u282 u283 u284 u285 u286 u287 u288 u289 u290 u291 u292 u293 u294 u295 u296 u297 u298 u299 u300 u301 u302 u303 u304 u305 u306 u307 u308 u309 u310 u311 u312 u313 u314 u315 u316 u317 u318 u319 u320 u321 u322 u323 u324 u325 u326 u327 u328 u329 u330 : Value) (Q : Exit → Act → World → Prop) (hQ : Q = bodyPost Yba.prog Yba.f4 fun e w' => e = .returned (.bool true) ∧ Below w0.heap.size w0 w')
    (K : Act → World → Prop) (hK : ∀ a w, (tl 7 (Yba.f4.body.getD .skip)).wp Yba.prog Q a w → K a w) :
    (hd (tl 6 (Yba.f4.body.getD .skip))).wp Yba.prog (Exit.then K Q) { tmps := List.toArray (.bool slow :: .int .i64 room :: .int .u8 (aw : Nat) :: .int .u8 (np : Nat) :: .int .u8 (k : Nat) :: .int .u8 (hd0 : Nat) :: .int .u64 done :: .int .i64 t :: u8 :: u9 :: u10 :: u11 :: u12 :: u13 :: u14 :: u15 :: .bool false :: .int .i64 (np : Nat) :: .int .i64 (k : Nat) :: .int .i64 (aw : Nat) :: .int .i64 (L : Nat) :: u21 :: u22 :: u23 :: u24 :: u25 :: u26 :: u27 :: u28 :: u29 :: u30 :: u31 :: u32 :: u33 :: u34 :: u35 :: u36 :: u37 :: u38 :: u39 :: u40 :: u41 :: u42 :: u43 :: u44 :: u45 :: u46 :: u47 :: u48 :: u49 :: u50 :: u51 :: u52 :: u53 :: u54 :: u55 :: u56 :: u57 :: u58 :: u59 :: u60 :: u61 :: u62 :: u63 :: u64 :: u65 :: u66 :: u67 :: u68 :: u69 :: u70 :: u71 :: u72 :: u73 :: u74 :: u75 :: u76 :: u77 :: u78 :: u79 :: u80 :: u81 :: u82 :: u83 :: u84 :: u85 :: u86 :: u87 :: u88 :: u89 :: u90 :: u91 :: u92 :: u93 :: u94 :: u95 :: u96 :: u97 :: u98 :: u99 :: u100 :: u101 :: u102 :: u103 :: u104 :: u105 :: u106 :: u107 :: u108 :: u109 :: u110 :: u111 :: u112 :: u113 :: u114 :: u115 :: u116 :: u117 :: u118 :: u119 :: u120 :: u121 :: u122 :: u123 :: u124 :: u125 :: u126 :: u127 :: u128 :: u129 :: u130 :: u131 :: u132 :: u133 :: u134 :: u135 :: u136 :: u137 :: u138 :: u139 :: u140 :: u141 :: u142 :: u143 :: u144 :: u145 :: u146 :: u147 :: u148 :: u149 :: u150 :: u151 :: u152 :: u153 :: u154 :: u155 :: u156 :: u157 :: u158 :: u159 :: u160 :: u161 :: u162 :: u163 :: u164 :: u165 :: u166 :: u167 :: u168 :: u169 :: u170 :: u171 :: u172 :: u173 :: u174 :: u175 :: u176 :: u177 :: u178 :: u179 :: u180 :: u181 :: u182 :: u183 :: u184 :: u185 :: u186 :: u187 :: u188 :: u189 :: u190 :: u191 :: u192 :: u193 :: u194 :: u195 :: u196 :: u197 :: u198 :: u199 :: u200 :: u201 :: u202 :: u203 :: u204 :: u205 :: u206 :: u207 :: u208 :: u209 :: u210 :: u211 :: u212 :: u213 :: u214 :: u215 :: u216 :: u217 :: u218 :: u219 :: u220 :: u221 :: u222 :: u223 :: u224 :: u225 :: u226 :: u227 :: u228 :: u229 :: u230 :: u231 :: u232 :: u233 :: u234 :: u235 :: u236 :: u237 :: u238 :: u239 :: u240 :: u241 :: u242 :: u243 :: u244 :: u245 :: u246 :: u247 :: u248 :: u249 :: u250 :: u251 :: u252 :: u253 :: u254 :: u255 :: u256 :: u257 :: u258 :: u259 :: u260 :: u261 :: u262 :: u263 :: u264 :: u265 :: u266 :: u267 :: u268 :: u269 :: u270 :: u271 :: u272 :: u273 :: u274 :: u275 :: u276 :: u277 :: u278 :: u279 :: u280 :: u281 :: u282 :: u283 :: u284 :: u285 :: u286 :: u287 :: u288 :: u289 :: u290 :: u291 :: u292 :: u293 :: u294 :: u295 :: u296 :: u297 :: u298 :: u299 :: u300 :: u301 :: u302 :: u303 :: u304 :: u305 :: u306 :: u307 :: u308 :: u309 :: u310 :: u311 :: u312 :: u313 :: u314 :: u315 :: u316 :: u317 :: u318 :: u319 :: u320 :: u321 :: u322 :: u323 :: u324 :: u325 :: u326 :: u327 :: u328 :: u329 :: u330 :: []), defers := [] } W := by
  have hL9 : L ≤ 512 := by rw [hL]; exact Nat.le_trans (Nat.pow_le_pow_right (by decide) e9) (by decide)
  have hL3 : 8 ≤ L := by rw [hL]; exact Nat.le_trans (by decide) (Nat.pow_le_pow_right (n := 2) (by decide) e3)
  dsimp only [Yba.f4, Option.getD, tl, hd] at hK ⊢
  subst hQ
  obtain ⟨W1, hW1⟩ : ∃ W1, W1 = W.alloc (.cells (jobs (fun _ => 0) L).toArray 32) := ⟨_, rfl⟩
  obtain ⟨bb, hbb⟩ : ∃ bb, bb = W.heap.size := ⟨_, rfl⟩
  have hmk := make_jobs L (by omega) W
  rw [← hW1, ← hbb] at hmk
  have z1 : W1.heap.size = bb + 1 := by rw [hW1, hbb]; simp
  have hb1 : W1.heap[bb]? = some (.cells (jobs (fun _ => 0) L).toArray 32) := by rw [hW1]; exact hp_alloc_at hbb
  have hBl1 : Below w0.heap.size w0 W1 := by rw [hW1]; exact Below.alloc hBl hBl.size _
  have hb0 : w0.heap.size ≤ bb := by omega
  clear hW1 hbb hsz hBl
  obtain ⟨h, hh⟩ : ∃ h, h = hd0 % L := ⟨_, rfl⟩
  have hhL : h < L := by rw [hh]; exact Nat.mod_lt _ (by omega)
  have hrem : Int.tmod (hd0 : Int) (L : Int) = (h : Int) := by rw [hh]; rfl
  have hL0 : (0 : Int) < (L : Int) := by omega
  have hL1 : ((L : Int) == 0) = false := by simp; omega
  have hL2 : ((L : Int) == -1) = false := by simp <;> omega
  have hw2 : IntKind.i64.wrap ((L : Int) - 1) = (L : Int) - 1 := by rw [IntKind.wrap_i64]; omega
  have hwh : IntKind.i64.wrap (h : Int) = (h : Int) := by rw [IntKind.wrap_i64]; omega
  have HL := hide hL
  have H0 : Hid (Fill w0 bb L h 0 W1) := ⟨fun _ => 0, hb1, z1, hBl1, fun i hi => by omega⟩
  clear hL hh hb1 z1 hBl1
  go_wp2_with fail
  go_loopw [23] (fun x wr => ∃ j : Nat, j ≤ k ∧ x = .int .i64 j ∧ Hid (Fill w0 bb L h j wr)) (fun x _ => k - (intOf x).toNat)
  case atStart => exact ⟨0, Nat.zero_le _, rfl, H0⟩
  case round =>
    obtain ⟨j, hj, rfl, hF⟩ := hrel
    by_cases hlt : j < k
    · have hstep := hide (hF.out.step hhL (by omega) hb0)
      obtain ⟨f, f1, f2, f3, f4⟩ := hF.out
      obtain ⟨p, hp⟩ : ∃ p, p = (h + j) % L := ⟨_, rfl⟩
      rw [← hp] at hstep
      have hpL : p < L := by rw [hp]; exact Nat.mod_lt _ (by omega)
      have hand : bits .and .i64 ((h : Int) + (j : Int)) ((L : Int) - 1) = (p : Int) := by rw [hp, ← Int.natCast_add]; exact ring_mod e (h + j) L HL.out e9 (by omega)
      have hw1 : IntKind.i64.wrap ((h : Int) + (j : Int)) = (h : Int) + (j : Int) := by rw [IntKind.wrap_i64]; omega
      have hw4 : IntKind.i64.wrap (1000 + (j : Int)) = 1000 + (j : Int) := by rw [IntKind.wrap_i64]; omega
      have hp0 : (0 : Int) ≤ (p : Int) := by omega
      have hp1 : (p : Int) < (L : Int) := by omega
      have hj1 : (j : Int) < (k : Int) := by omega
      have b0 : wr.cell? ⟨bb, p * 2, none⟩ = some (.int .i64 (f p)) := cell_at f1 (by rw [List.getElem?_toArray, jobs_get _ _ _ (by omega), jcell_even])
      have b1 : wr.cell? ⟨bb, p * 2 + 1, none⟩ = some (.pointer none) := cell_at f1 (by rw [List.getElem?_toArray, jobs_get _ _ _ (by omega), jcell_odd])
      have y0 : wr.frozen? ⟨bb, p * 2, none⟩ = false := frozen_at f1
      have y1 : wr.frozen? ⟨bb, p * 2 + 1, none⟩ = false := frozen_at f1
      clear f1 f2 f3 f4 hp
      go_wp2_with fail
      go_roundw
      case rel => exact ⟨j + 1, by omega, by go_num, hstep⟩
      case measure => simp [intOf]; omega
    · obtain rfl : k = j := by omega
      obtain ⟨f, f1, f2, f3, f4⟩ := hF.out
      have F1 := hide f1
      have F2 := hide f2
      have F3 := hide f3
      have F4 := hide f4
      clear f1 f2 f3 f4
      go_upto_region 17 with fail
      apply stage10 (slow := slow) (room := room) (aw := aw) (np := np) (k := k) (hd0 := hd0) (done := done) (t := t) (w0 := w0) (L := L) (h := h) (bb := bb) (f := f) (n1 := n1) (k1 := k1) (a1 := a1) (r0 := r0) (r1 := r1) (hb0 := hb0) (hsz := F2.out) (hQ := rfl) (hK := by assumption) (hBb := F1.out) (row := Or.inr ⟨e, e3, e9, HL.out, hhL, hkL⟩) (hf := F4.out) (hBl := F3.out)
end Go.Proofs.Ybulkdpks
