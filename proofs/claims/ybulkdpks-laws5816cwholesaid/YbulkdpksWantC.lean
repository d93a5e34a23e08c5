/-
  The law's own answer: taken, one woken.
-/
import Derived.Test.YbulkdpksRows
import Derived.WalkKit
import Derived.ProofKit
import Derived.OpenShut
import Derived.WalkLawsBesides
import Derived.BigQuiet
import Derived.Laws.BitsAllLaws
import Derived.Laws.StructEq
import Derived.Outline
import Derived.Test.YbulkdpksLook3
import Derived.Deep.RegionWith
import Derived.Deep.RegionHeld3
import Derived.Deep.DeepCutAuto
import Derived.Deep.DrawnRows
namespace Go.Proofs.Ybulkdpks
open Go.ChangeShapes Go.WideShapes Go.ChangeAt Go.RowKit
open Go.ChangeMaps (setBlock)
set_option linter.unusedVariables false


set_option maxRecDepth 100000 in
set_option maxHeartbeats 3200000 in
theorem stage16_wake (room : Int) (aw np k hd0 : Nat) (done t : Int) (w0 W : World) (m : Nat) (hnm : np = m + 1) (L' h' : Nat) (cb sb pb B L h bb : Nat) (g : Nat → Int) (n1 : np ≤ 255) (k1 : k ≤ 255) (a1 : aw ≤ 255) (h1 : 0 < room) (r1 : room ≤ 9223372036854775807) (h2 : (aw : Int) + np - k ≠ 0) (h3 : aw = 0) (hC : W.heap[cb]? = some (.cells (crewC 0 false (room - 1) 1 done (h' : Nat) ((k + 1 : Nat) : Int) (.slice (some ⟨bb, 0, none⟩) L' L') (.slice (some ⟨pb, 0, none⟩) m np)) 62)) (hBb : W.heap[bb]? = some (.cells (jobs g L').toArray 32)) (row : Row L' h' (k + 1)) (hG : Holds L' h' k g t true)
    (hP : W.heap[pb]? = some (.cells (pairs (pkA B np true) (pkB np true) np).toArray 49)) (hS : W.heap[sb]? = some (.cells (ones (fun i => .pointer (some ⟨B + i, 0, none⟩)) np).toArray 35)) (hW : ∀ i, i < np → W.heap[B + i]? = some (.cells (wkC np done true i) 46)) (hBl : Below w0.heap.size w0 W) (u8 u9 u10 u11 u12 u13 u14 u15 u21 u23 u26 u27 u29 u32 u33 u34 u35 u36 u37 u38 u39 u40 u41 u42 u43 u44 u45 u46 u47 u48 u49 u50 u51 u52 u53 u54 u55 u56 u57 u58 u59 u60 u61 u62 u63 u64 u65 u66 u67 u68 u69 u70 u71 u72 u73 u74 u75 u76 u77 u78 u79 u80 u81 u82 u83 u84 u85 u86 u87 u88 u89 u90 u91 u92 u93 u94 u95 u96 u97 u98 u99 u100 u101 u102 u103 u104 u105 u106 u107 u108 u109 u110 u111 u112 u113 u114 u115 u116 u117 u118 u119 u120 u121 u122 u123 u124 u125 u126 u127 u128 u129 u130 u131 u132 u133 u134 u135 u136 u137 u138 u139 u140 u141 u142 u143 u144 u145 u146 u147 u148 u149 u150 u151 u152 u153 u154 u155 u156 u157 u158 u159 u160 u161 u162 u163 u164 u165 u166 u167 u168 u169 u170 u171 u172 u173 u174 u175 u176 u177 u178 u179 u180 u181 u182 u183 u184 u185 u186 u187 u188 u189 u190 u191 u192 u193 u194 u195 u196 u197 u198 u199 u200 u201 u202 u203 u204 u205 u206 u207 u208 u209 u210 u211 u212 u213 u214 u215 u216 u217 u218 u219 u220 u221 u222 u223 u224 u225 u226 u227 u228 u229 u230 u231 u232 u233 u234 u235 u236 u237 u238 u239 u240 u241 u242 u243 u244 u245 u246 u247 u248 u249 u250 u251 u252 u253 u254 u255 u256 u257 u258 u259 u260 u261 u262 u263 u264 u265 u266 u267 u268 u269 u270 u271 u272 u273 u274 u275 u276 u277 u278 u279 u280 u281 u282 u283 u284 u285 u286 u287 u288 u289 u290 u291 u292 u293 u294 u295 u296 u297 u298 u299 u300 u301 u302 u303 u304 u305 u306 u307 u308 u309 u310 u311 u312 u313 u314 u315 u316 u317 u318 u319 u320 u321 u322 u323 u324 u325 u326 u327 u328 u329 u330 : Value) (Q : Exit → Act → World → Prop) (hQ : Q = bodyPost Yba.prog Yba.f4 fun e w' => e = .returned (.bool true) ∧ Below w0.heap.size w0 w')
    (K : Act → World → Prop) (hK : ∀ a w, (tl 17 (Yba.f4.body.getD .skip)).wp Yba.prog Q a w → K a w) :
    (hd (tl 16 (Yba.f4.body.getD .skip))).wp Yba.prog (Exit.then K Q) { tmps := List.toArray (.bool false :: .int .i64 room :: .int .u8 (aw : Nat) :: .int .u8 (np : Nat) :: .int .u8 (k : Nat) :: .int .u8 (hd0 : Nat) :: .int .u64 done :: .int .i64 t :: u8 :: u9 :: u10 :: u11 :: u12 :: u13 :: u14 :: u15 :: .bool false :: .int .i64 (np : Nat) :: .int .i64 (k : Nat) :: .int .i64 (aw : Nat) :: .int .i64 (L : Nat) :: u21 :: .int .i64 (h : Nat) :: u23 :: .slice (some ⟨sb, 0, none⟩) np np :: .slice (some ⟨pb, 0, none⟩) np np :: u26 :: u27 :: .pointer (some ⟨cb, 0, none⟩) :: u29 :: .bool true :: .bool false :: u32 :: u33 :: u34 :: u35 :: u36 :: u37 :: u38 :: u39 :: u40 :: u41 :: u42 :: u43 :: u44 :: u45 :: u46 :: u47 :: u48 :: u49 :: u50 :: u51 :: u52 :: u53 :: u54 :: u55 :: u56 :: u57 :: u58 :: u59 :: u60 :: u61 :: u62 :: u63 :: u64 :: u65 :: u66 :: u67 :: u68 :: u69 :: u70 :: u71 :: u72 :: u73 :: u74 :: u75 :: u76 :: u77 :: u78 :: u79 :: u80 :: u81 :: u82 :: u83 :: u84 :: u85 :: u86 :: u87 :: u88 :: u89 :: u90 :: u91 :: u92 :: u93 :: u94 :: u95 :: u96 :: u97 :: u98 :: u99 :: u100 :: u101 :: u102 :: u103 :: u104 :: u105 :: u106 :: u107 :: u108 :: u109 :: u110 :: u111 :: u112 :: u113 :: u114 :: u115 :: u116 :: u117 :: u118 :: u119 :: u120 :: u121 :: u122 :: u123 :: u124 :: u125 :: u126 :: u127 :: u128 :: u129 :: u130 :: u131 :: u132 :: u133 :: u134 :: u135 :: u136 :: u137 :: u138 :: u139 :: u140 :: u141 :: u142 :: u143 :: u144 :: u145 :: u146 :: u147 :: u148 :: u149 :: u150 :: u151 :: u152 :: u153 :: u154 :: u155 :: u156 :: u157 :: u158 :: u159 :: u160 :: u161 :: u162 :: u163 :: u164 :: u165 :: u166 :: u167 :: u168 :: u169 :: u170 :: u171 :: u172 :: u173 :: u174 :: u175 :: u176 :: u177 :: u178 :: u179 :: u180 :: u181 :: u182 :: u183 :: u184 :: u185 :: u186 :: u187 :: u188 :: u189 :: u190 :: u191 :: u192 :: u193 :: u194 :: u195 :: u196 :: u197 :: u198 :: u199 :: u200 :: u201 :: u202 :: u203 :: u204 :: u205 :: u206 :: u207 :: u208 :: u209 :: u210 :: u211 :: u212 :: u213 :: u214 :: u215 :: u216 :: u217 :: u218 :: u219 :: u220 :: u221 :: u222 :: u223 :: u224 :: u225 :: u226 :: u227 :: u228 :: u229 :: u230 :: u231 :: u232 :: u233 :: u234 :: u235 :: u236 :: u237 :: u238 :: u239 :: u240 :: u241 :: u242 :: u243 :: u244 :: u245 :: u246 :: u247 :: u248 :: u249 :: u250 :: u251 :: u252 :: u253 :: u254 :: u255 :: u256 :: u257 :: u258 :: u259 :: u260 :: u261 :: u262 :: u263 :: u264 :: u265 :: u266 :: u267 :: u268 :: u269 :: u270 :: u271 :: u272 :: u273 :: u274 :: u275 :: u276 :: u277 :: u278 :: u279 :: u280 :: u281 :: u282 :: u283 :: u284 :: u285 :: u286 :: u287 :: u288 :: u289 :: u290 :: u291 :: u292 :: u293 :: u294 :: u295 :: u296 :: u297 :: u298 :: u299 :: u300 :: u301 :: u302 :: u303 :: u304 :: u305 :: u306 :: u307 :: u308 :: u309 :: u310 :: u311 :: u312 :: u313 :: u314 :: u315 :: u316 :: u317 :: u318 :: u319 :: u320 :: u321 :: u322 :: u323 :: u324 :: u325 :: u326 :: u327 :: u328 :: u329 :: u330 :: []), defers := [] } W := by
  dsimp only [Yba.f4, Option.getD, tl, hd] at hK ⊢
  subst hQ
  have c2 : W.cell? ⟨cb, 2, none⟩ = some (.bool false) := cell_at hC rfl
  have c5 : W.cell? ⟨cb, 5, none⟩ = some (.int .u64 done) := cell_at hC rfl
  have c10 : W.cell? ⟨cb, 10, none⟩ = some (.int .i64 0) := cell_at hC rfl
  have c11 : W.cell? ⟨cb, 11, none⟩ = some (.int .u64 0) := cell_at hC rfl
  have c12 : W.cell? ⟨cb, 12, none⟩ = some (.bool false) := cell_at hC rfl
  have HLD : Hid (Calls Yba.prog 7 #[.pointer (some ⟨cb, 0, none⟩)] W fun e w' => e = .returned (.int .i32 0) ∧ w' = W) := load32 _ 0 W (cell_at hC rfl)
  have HC := hide hC
  have HBB := hide hBb
  have HRW := hide row
  have HG := hide hG
  have HP := hide hP
  have HS := hide hS
  have HW := hide hW
  have HB := hide hBl
  clear hC hBb row hG hP hS hW hBl
  have hdd : (done != done) = false := by simp
  have hw1 : IntKind.i64.wrap ((aw : Int) + (np : Int)) = (aw : Int) + (np : Int) := by rw [IntKind.wrap_i64]; omega
  have hw2 : IntKind.i64.wrap ((aw : Int) + (np : Int) - (k : Int)) = (aw : Int) + (np : Int) - (k : Int) := by rw [IntKind.wrap_i64]; omega
  have hr : ¬ room ≤ 0 := by omega
  have hf : ((aw : Int) + (np : Int) - (k : Int) == 0) = false := by simp; omega
  have H2 := hide h2
  clear h2
  have ha : ((aw : Int) == 0) = true := by simp; omega
  have hn0 : (0 : Int) < (np : Int) := by omega
  have H3 := hide h3
  have HM := hide hnm
  have hnm1 : (np : Int) - 1 = (m : Int) := by omega
  clear h3 hnm
  go_upto_region 44 with (go_at_call 7; refine HLD.out.mono ?_; rintro e w' ⟨rfl, rfl⟩)
  apply stage24_aw (slow := false) (room := room) (aw := aw) (np := np) (k := k) (hd0 := hd0) (done := done) (t := t) (w0 := w0) (cb := cb) (sb := sb) (pb := pb) (B := B) (n1 := n1) (k1 := k1) (a1 := a1) (hQ := rfl) (hK := by assumption) (hC := HC.out) (hBb := HBB.out) (row := HRW.out) (hG := HG.out) (hP := HP.out) (hS := HS.out) (hW := HW.out) (hBl := HB.out) (r0 := h1) (r1 := r1) (hnm := HM.out) (ha0 := H3.out)
end Go.Proofs.Ybulkdpks
