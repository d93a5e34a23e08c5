/-
  The law's crew, pool and offer.
-/
import Derived.Test.YbulkdpksRows
import Derived.WalkKit
import Derived.ProofKit
import Derived.OpenShut
import Derived.WalkLawsBesides
import Derived.BigQuiet
import Derived.Laws.BitsAllLaws
import Derived.Laws.StructEq
import Derived.Outline
import Derived.Test.YbulkdpksWantA
import Derived.Test.YbulkdpksWantB
import Derived.Test.YbulkdpksWantC
import Derived.Deep.RegionWith
import Derived.Deep.RegionHeld3
import Derived.Deep.DeepCutAuto
import Derived.Deep.DrawnRows
namespace Go.Proofs.Ybulkdpks
open Go.ChangeShapes Go.WideShapes Go.ChangeAt Go.RowKit
open Go.ChangeMaps (setBlock)
set_option linter.unusedVariables false

theorem crew_built (slow : Bool) (room aw done h k : Int) (buf pk : Value) : ((((((((Yba.zeroCells62.setIfInBounds 2 (Value.bool slow)).setIfInBounds 3 (Value.int IntKind.i64 room)).setIfInBounds 4 (Value.int IntKind.i64 aw)).setIfInBounds 5 (Value.int IntKind.u64 done)).setIfInBounds 6 (Value.int IntKind.i64 h)).setIfInBounds 7 (Value.int IntKind.i64 k)).setIfInBounds 8 buf).setIfInBounds 9 pk) = crewC 0 slow room aw done h k buf pk := by kernel_rfl

set_option maxRecDepth 100000 in
set_option maxHeartbeats 3200000 in
theorem stage13 (slow : Bool) (room : Int) (aw np k hd0 : Nat) (done t : Int) (w0 W : World) (sb pb B L h bb : Nat) (f : Nat → Int) (n1 : np ≤ 255) (k1 : k ≤ 255) (a1 : aw ≤ 255) (r0 : -9223372036854775808 ≤ room) (r1 : room ≤ 9223372036854775807) (hb0 : w0.heap.size ≤ bb) (o1 : bb < sb) (o2 : sb < pb) (o3 : pb < B) (hsz : W.heap.size = B + np)
    (hBb : W.heap[bb]? = some (.cells (jobs f L).toArray 32)) (row : Row L h k) (hf : ∀ i, i < k → f ((h + i) % L) = 1000 + i)
    (hP : W.heap[pb]? = some (.cells (pairs (pkA B np false) (pkB np false) np).toArray 49)) (hS : W.heap[sb]? = some (.cells (ones (fun i => .pointer (some ⟨B + i, 0, none⟩)) np).toArray 35)) (hW : ∀ i, i < np → W.heap[B + i]? = some (.cells (wkC np done false i) 46)) (hBl : Below w0.heap.size w0 W) (u8 u9 u10 u11 u12 u13 u14 u15 u23 u26 u27 u28 u29 u30 u31 u32 u33 u34 u35 u36 u37 u38 u39 u40 u41 u42 u43 u44 u45 u46 u47 u48 u49 u50 u51 u52 u53 u54 u55 u56 u57 u58 u59 u60 u61 u62 u63 u64 u65 u66 u67 u68 u69 u70 u71 u72 u73 u74 u75 u76 u77 u78 u79 u80 u81 u82 u83 u84 u85 u86 u87 u88 u89 u90 u91 u92 u93 u94 u95 u96 u97 u98 u99 u100 u101 u102 u103 u104 u105 u106 u107 u108 u109 u110 u111 u112 u113 u114 u115 u116 u117 u118 u119 u120 u121 u122 u123 u124 u125 u126 u127 u128 u129 u130 u131 u132 u133 u134 u135 u136 u137 u138 u139 u140 u141 u142 u143 u144 u145 u146 u147 u148 u149 u150 u151 u152 u153 u154 u155 u156 u157 u158 u159 u160 u161 u162 u163 u164 u165 u166 u167 u168 u169 u170 u171 u172 u173 u174 u175 u176 u177 u178 u179 u180 u181 u182 u183 u184 u185 u186 u187 u188 u189 u190 u191 u192 u193 u194 u195 u196 u197 u198 u199 u200 u201 u202 u203 u204 u205 u206 u207 u208 u209 u210 u211 u212 u213 u214 u215 u216 u217 u218 u219 u220 u221 u222 u223 u224 u225 u226 u227 u228 u229 u230 u231 u232 u233 u234 u235 u236 u237 u238 u239 u240 u241 u242 u243 u244 u245 u246 u247 u248 u249 u250 u251 u252 u253 u254 u255 u256 u257 u258 u259 u260 u261 u262 u263 u264 u265 u266 u267 u268 u269 u270 u271 u272 u273 u274 u275 u276 u277 u278 u279 u280 u281 u282 u283 u284 u285 u286 u287 u288 u289 u290 u291 u292 u293 u294 u295 u296 u297 u298 u299 u300 u301 u302 u303 u304 u305 u306 u307 u308 u309 u310 u311 u312 u313 u314 u315 u316 u317 u318 u319 u320 u321 u322 u323 u324 u325 u326 u327 u328 u329 u330 : Value) (Q : Exit → Act → World → Prop) (hQ : Q = bodyPost Yba.prog Yba.f4 fun e w' => e = .returned (.bool true) ∧ Below w0.heap.size w0 w')
    (K : Act → World → Prop) (hK : ∀ a w, (tl 14 (Yba.f4.body.getD .skip)).wp Yba.prog Q a w → K a w) :
    (hd (tl 13 (Yba.f4.body.getD .skip))).wp Yba.prog (Exit.then K Q) { tmps := List.toArray (.bool slow :: .int .i64 room :: .int .u8 (aw : Nat) :: .int .u8 (np : Nat) :: .int .u8 (k : Nat) :: .int .u8 (hd0 : Nat) :: .int .u64 done :: .int .i64 t :: u8 :: u9 :: u10 :: u11 :: u12 :: u13 :: u14 :: u15 :: .bool false :: .int .i64 (np : Nat) :: .int .i64 (k : Nat) :: .int .i64 (aw : Nat) :: .int .i64 (L : Nat) :: .slice (some ⟨bb, 0, none⟩) L L :: .int .i64 (h : Nat) :: u23 :: .slice (some ⟨sb, 0, none⟩) np np :: .slice (some ⟨pb, 0, none⟩) np np :: u26 :: u27 :: u28 :: u29 :: u30 :: u31 :: u32 :: u33 :: u34 :: u35 :: u36 :: u37 :: u38 :: u39 :: u40 :: u41 :: u42 :: u43 :: u44 :: u45 :: u46 :: u47 :: u48 :: u49 :: u50 :: u51 :: u52 :: u53 :: u54 :: u55 :: u56 :: u57 :: u58 :: u59 :: u60 :: u61 :: u62 :: u63 :: u64 :: u65 :: u66 :: u67 :: u68 :: u69 :: u70 :: u71 :: u72 :: u73 :: u74 :: u75 :: u76 :: u77 :: u78 :: u79 :: u80 :: u81 :: u82 :: u83 :: u84 :: u85 :: u86 :: u87 :: u88 :: u89 :: u90 :: u91 :: u92 :: u93 :: u94 :: u95 :: u96 :: u97 :: u98 :: u99 :: u100 :: u101 :: u102 :: u103 :: u104 :: u105 :: u106 :: u107 :: u108 :: u109 :: u110 :: u111 :: u112 :: u113 :: u114 :: u115 :: u116 :: u117 :: u118 :: u119 :: u120 :: u121 :: u122 :: u123 :: u124 :: u125 :: u126 :: u127 :: u128 :: u129 :: u130 :: u131 :: u132 :: u133 :: u134 :: u135 :: u136 :: u137 :: u138 :: u139 :: u140 :: u141 :: u142 :: u143 :: u144 :: u145 :: u146 :: u147 :: u148 :: u149 :: u150 :: u151 :: u152 :: u153 :: u154 :: u155 :: u156 :: u157 :: u158 :: u159 :: u160 :: u161 :: u162 :: u163 :: u164 :: u165 :: u166 :: u167 :: u168 :: u169 :: u170 :: u171 :: u172 :: u173 :: u174 :: u175 :: u176 :: u177 :: u178 :: u179 :: u180 :: u181 :: u182 :: u183 :: u184 :: u185 :: u186 :: u187 :: u188 :: u189 :: u190 :: u191 :: u192 :: u193 :: u194 :: u195 :: u196 :: u197 :: u198 :: u199 :: u200 :: u201 :: u202 :: u203 :: u204 :: u205 :: u206 :: u207 :: u208 :: u209 :: u210 :: u211 :: u212 :: u213 :: u214 :: u215 :: u216 :: u217 :: u218 :: u219 :: u220 :: u221 :: u222 :: u223 :: u224 :: u225 :: u226 :: u227 :: u228 :: u229 :: u230 :: u231 :: u232 :: u233 :: u234 :: u235 :: u236 :: u237 :: u238 :: u239 :: u240 :: u241 :: u242 :: u243 :: u244 :: u245 :: u246 :: u247 :: u248 :: u249 :: u250 :: u251 :: u252 :: u253 :: u254 :: u255 :: u256 :: u257 :: u258 :: u259 :: u260 :: u261 :: u262 :: u263 :: u264 :: u265 :: u266 :: u267 :: u268 :: u269 :: u270 :: u271 :: u272 :: u273 :: u274 :: u275 :: u276 :: u277 :: u278 :: u279 :: u280 :: u281 :: u282 :: u283 :: u284 :: u285 :: u286 :: u287 :: u288 :: u289 :: u290 :: u291 :: u292 :: u293 :: u294 :: u295 :: u296 :: u297 :: u298 :: u299 :: u300 :: u301 :: u302 :: u303 :: u304 :: u305 :: u306 :: u307 :: u308 :: u309 :: u310 :: u311 :: u312 :: u313 :: u314 :: u315 :: u316 :: u317 :: u318 :: u319 :: u320 :: u321 :: u322 :: u323 :: u324 :: u325 :: u326 :: u327 :: u328 :: u329 :: u330 :: []), defers := [] } W := by
  dsimp only [Yba.f4, Option.getD, tl, hd] at hK ⊢
  subst hQ
  have HBB := hide hBb
  have HRW := hide row
  have HF := hide hf
  have HP := hide hP
  have HS := hide hS
  have HW := hide hW
  have HB := hide hBl
  have HZ := hide hsz
  clear hBb row hf hP hS hW hBl hsz
  go_upto_region 28 with fail
  obtain ⟨W1, hW1⟩ : ∃ W1, W1 = ((W.alloc (Obj.cells ((((((((Yba.zeroCells62.setIfInBounds 2 (Value.bool slow)).setIfInBounds 3 (Value.int IntKind.i64 room)).setIfInBounds 4 (Value.int IntKind.i64 (aw : Nat))).setIfInBounds 5 (Value.int IntKind.u64 done)).setIfInBounds 6 (Value.int IntKind.i64 (h : Nat))).setIfInBounds 7 (Value.int IntKind.i64 (k : Nat))).setIfInBounds 8 (Value.slice (some { block := bb, off := 0 }) L L)).setIfInBounds 9 (Value.slice (some { block := pb, off := 0 }) np np)) 62)).alloc (Obj.cells #[Value.nilFunc, Value.nilFunc, Value.int IntKind.i64 0, Value.int IntKind.i64 0, Value.pointer (some { block := W.heap.size, off := 0 }), Value.int IntKind.u32 0, Value.pointer none, Value.int IntKind.u64 0, Value.pointer none, Value.int IntKind.u64 0, Value.nilFunc, Value.int IntKind.i32 0, Value.pointer none, Value.int IntKind.i64 0, Value.int IntKind.i64 0, Value.int IntKind.i64 0, Value.slice none 0 0, Value.pointer none, Value.pointer none, Value.bool false, Value.chan none, Value.pointer none, Value.pointer none, Value.bool false, Value.pointer none, Value.pointer none, Value.bool false, Value.int IntKind.u64 0, Value.int IntKind.u64 0, Value.int IntKind.u64 0, Value.int IntKind.i32 0, Value.int IntKind.u32 0, Value.slice none 0 0, Value.pointer none, Value.int IntKind.i64 0, Value.bool false] 87)) := ⟨_, rfl⟩
  rw [← hW1]
  have hC1 : W1.heap[W.heap.size]? = some (.cells (crewC 0 slow room (aw : Nat) done (h : Nat) (k : Nat) (.slice (some ⟨bb, 0, none⟩) L L) (.slice (some ⟨pb, 0, none⟩) np np)) 62) := by
    rw [hW1, hp_alloc_lt (by simp), hp_alloc_eq, crew_built]
  have hq : W1.heap[W.heap.size + 1]? = some (.cells #[Value.nilFunc, Value.nilFunc, Value.int IntKind.i64 0, Value.int IntKind.i64 0, Value.pointer (some { block := W.heap.size, off := 0 }), Value.int IntKind.u32 0, Value.pointer none, Value.int IntKind.u64 0, Value.pointer none, Value.int IntKind.u64 0, Value.nilFunc, Value.int IntKind.i32 0, Value.pointer none, Value.int IntKind.i64 0, Value.int IntKind.i64 0, Value.int IntKind.i64 0, Value.slice none 0 0, Value.pointer none, Value.pointer none, Value.bool false, Value.chan none, Value.pointer none, Value.pointer none, Value.bool false, Value.pointer none, Value.pointer none, Value.bool false, Value.int IntKind.u64 0, Value.int IntKind.u64 0, Value.int IntKind.u64 0, Value.int IntKind.i32 0, Value.int IntKind.u32 0, Value.slice none 0 0, Value.pointer none, Value.int IntKind.i64 0, Value.bool false] 87) := by rw [hW1]; exact hp_alloc_at (by simp)
  have hK1 : Kept (fun _ => False) W W1 := by rw [hW1]; exact ((Kept.refl _ _).alloc _).alloc _
  have hB1 : Below w0.heap.size w0 W1 := by rw [hW1]; exact Below.alloc (Below.alloc HB.out HB.out.size _) (Nat.le_trans HB.out.size (by simp)) _
  clear hW1
  obtain ⟨cb, hcb⟩ : ∃ cb, cb = W.heap.size := ⟨_, rfl⟩
  rw [← hcb] at hC1 hq ⊢
  have hcb1 : cb = B + np := by rw [hcb]; exact HZ.out
  have s : Start (cb + 1) cb bb pb B L h k np f room aw done slow W1 :=
    { o1 := by omega, o2 := o3, o3 := by omega, o4 := by omega, np1 := n1, k1 := k1, a0 := by omega, a1 := by omega, r0 := r0, r1 := r1, row := HRW.out, pool := cell_at hq rfl, poolLt := lt_of_block hq, crew := hC1,
      buf := (hK1.block bb (lt_of_block HBB.out) (by simp)).trans HBB.out, parked := (hK1.block pb (lt_of_block HP.out) (by simp)).trans HP.out, work := fun i hi => (hK1.block _ (lt_of_block (HW.out i hi)) (by simp)).trans (HW.out i hi) }
  have hS1 := (hK1.block sb (lt_of_block HS.out) (by simp)).trans HS.out
  have HO : Hid (Calls Yba.prog 8 #[.pointer (some ⟨cb + 1, 0, none⟩), .int .i64 t] W1 fun e w' => e = .returned (.tuple #[.bool (accB slow room aw np k), .bool (behindB slow room aw np k)]) ∧ Offered (cb + 1) cb bb pb B L h k np f t room aw done slow (accB slow room aw np k) (wokeB slow room aw np k) W1 w') := offered_any s
  have Hs1 := hide hS1
  have HB1 := hide hB1
  have Hs := hide s.poolLt
  have HCB := hide hcb1
  clear s hcb1 hC1 hq hK1 hS1 hB1 hcb HBB HP HS HW HB HZ HRW
  go_upto_region 29 with (go_at_call 8; refine HO.out.mono ?_; rintro e W2 ⟨rfl, hO'⟩; have hO := hide hO'; clear hO')
  replace hO := hO.out
  have hcb1 := HCB.out
  have hS2 : W2.heap[sb]? = some (.cells (ones (fun i => .pointer (some ⟨B + i, 0, none⟩)) np).toArray 35) := (hO.kept.block sb (lt_of_block Hs1.out) (by omega)).trans Hs1.out
  have hBl2 : Below w0.heap.size w0 W2 := Below.trans HB1.out (hO.kept.below (B := w0.heap.size) HB1.out.size (fun x hx => by omega))
  clear HO Hs1 HB1 hcb1
  cases slow with
  | true =>
    have ea : accB true room aw np k = false := rfl
    have ew : wokeB true room aw np k = false := rfl
    have eb : behindB true room aw np k = false := rfl
    rw [ea, ew] at hO
    rw [ea, eb]
    obtain ⟨⟨bb', L', h', g, x1, x2, x3, x4, x5, x6⟩, x7, x8, x9⟩ := hO
    obtain ⟨rfl, rfl⟩ := x6 rfl
    have hG : Holds L' h' k g t false := ⟨fun i hi => (x4 i hi).trans (HF.out i hi), by simp⟩
    apply stage16_slow (room := room) (aw := aw) (np := np) (k := k) (hd0 := hd0) (done := done) (t := t) (w0 := w0) (cb := cb) (sb := sb) (pb := pb) (B := B) (n1 := n1) (k1 := k1) (a1 := a1) (hQ := rfl) (hK := by assumption) (hC := x1) (hBb := x2) (row := x3) (hG := hG) (hP := x7) (hS := hS2) (hW := x8) (hBl := hBl2)
  | false =>
    by_cases h1 : room ≤ 0
    · have ea : accB false room aw np k = false := by unfold accB; have : ¬ 0 < room := by omega
                                                      simp [this]
      have ew : wokeB false room aw np k = false := by unfold wokeB; rw [ea]; rfl
      have eb : behindB false room aw np k = false := by unfold behindB; have : ¬ 0 < room := by omega
                                                         simp [this]
      rw [ea, ew] at hO
      rw [ea, eb]
      obtain ⟨⟨bb', L', h', g, x1, x2, x3, x4, x5, x6⟩, x7, x8, x9⟩ := hO
      obtain ⟨rfl, rfl⟩ := x6 rfl
      have hG : Holds L' h' k g t false := ⟨fun i hi => (x4 i hi).trans (HF.out i hi), by simp⟩
      apply stage16_room (room := room) (aw := aw) (np := np) (k := k) (hd0 := hd0) (done := done) (t := t) (w0 := w0) (cb := cb) (sb := sb) (pb := pb) (B := B) (n1 := n1) (k1 := k1) (a1 := a1) (hQ := rfl) (hK := by assumption) (hC := x1) (hBb := x2) (row := x3) (hG := hG) (hP := x7) (hS := hS2) (hW := x8) (hBl := hBl2) (h1 := h1)
    · have h1' : 0 < room := by omega
      by_cases h2 : (aw : Int) + np - k = 0
      · have ea : accB false room aw np k = false := by unfold accB; simp [h2]
        have ew : wokeB false room aw np k = false := by unfold wokeB; rw [ea]; rfl
        rw [ea, ew] at hO
        obtain ⟨⟨bb', L', h', g, x1, x2, x3, x4, x5, x6⟩, x7, x8, x9⟩ := hO
        obtain ⟨rfl, rfl⟩ := x6 rfl
        have hG : Holds L' h' k g t false := ⟨fun i hi => (x4 i hi).trans (HF.out i hi), by simp⟩
        by_cases h3 : k = 0
        · have eb : behindB false room aw np k = false := by unfold behindB; simp [h3]
          rw [ea, eb]
          apply stage16_free0 (room := room) (aw := aw) (np := np) (k := k) (hd0 := hd0) (done := done) (t := t) (w0 := w0) (cb := cb) (sb := sb) (pb := pb) (B := B) (n1 := n1) (k1 := k1) (a1 := a1) (hQ := rfl) (hK := by assumption) (hC := x1) (hBb := x2) (row := x3) (hG := hG) (hP := x7) (hS := hS2) (hW := x8) (hBl := hBl2) (h1 := h1') (h2 := h2) (h3 := h3)
        · have h3' : 0 < k := by omega
          have eb : behindB false room aw np k = true := by unfold behindB; rw [ea]; simp [h1', h3']
          rw [ea, eb]
          apply stage16_freek (room := room) (aw := aw) (np := np) (k := k) (hd0 := hd0) (done := done) (t := t) (w0 := w0) (cb := cb) (sb := sb) (pb := pb) (B := B) (n1 := n1) (k1 := k1) (a1 := a1) (hQ := rfl) (hK := by assumption) (hC := x1) (hBb := x2) (row := x3) (hG := hG) (hP := x7) (hS := hS2) (hW := x8) (hBl := hBl2) (h1 := h1') (h2 := h2) (h3 := h3')
      · have ea : accB false room aw np k = true := by unfold accB; simp [h1', h2]
        have eb : behindB false room aw np k = false := by unfold behindB; rw [ea]; rfl
        rw [ea, eb]
        by_cases h3 : 0 < aw
        · have ew : wokeB false room aw np k = false := by unfold wokeB; have : ¬ aw = 0 := by omega
                                                           simp [this]
          rw [ea, ew] at hO
          obtain ⟨⟨bb', L', h', g, x1, x2, x3, x4, x5, x6⟩, x7, x8, x9⟩ := hO
          have hG : Holds L' h' k g t true := ⟨fun i hi => (x4 i hi).trans (HF.out i hi), x5⟩
          apply stage16_calm1 (room := room) (aw := aw) (np := np) (k := k) (hd0 := hd0) (done := done) (t := t) (w0 := w0) (cb := cb) (sb := sb) (pb := pb) (B := B) (n1 := n1) (k1 := k1) (a1 := a1) (hQ := rfl) (hK := by assumption) (hC := x1) (hBb := x2) (row := x3) (hG := hG) (hP := x7) (hS := hS2) (hW := x8) (hBl := hBl2) (h1 := h1') (r1 := r1) (h2 := h2) (h3 := h3)
        · have h3' : aw = 0 := by omega
          by_cases h4 : np = 0
          · have ew : wokeB false room aw np k = false := by unfold wokeB; simp [h4]
            rw [ea, ew] at hO
            obtain ⟨⟨bb', L', h', g, x1, x2, x3, x4, x5, x6⟩, x7, x8, x9⟩ := hO
            have hG : Holds L' h' k g t true := ⟨fun i hi => (x4 i hi).trans (HF.out i hi), x5⟩
            apply stage16_calm0 (room := room) (aw := aw) (np := np) (k := k) (hd0 := hd0) (done := done) (t := t) (w0 := w0) (cb := cb) (sb := sb) (pb := pb) (B := B) (n1 := n1) (k1 := k1) (a1 := a1) (hQ := rfl) (hK := by assumption) (hC := x1) (hBb := x2) (row := x3) (hG := hG) (hP := x7) (hS := hS2) (hW := x8) (hBl := hBl2) (h1 := h1') (r1 := r1) (h2 := h2) (h3 := h3') (h4 := h4)
          · have ew : wokeB false room aw np k = true := by unfold wokeB; rw [ea]; have : 0 < np := by omega
                                                            simp [h3', this]
            rw [ea, ew] at hO
            obtain ⟨⟨bb', L', h', g, x1, x2, x3, x4, x5, x6⟩, x7, x8, x9⟩ := hO
            have hG : Holds L' h' k g t true := ⟨fun i hi => (x4 i hi).trans (HF.out i hi), x5⟩
            apply stage16_wake (room := room) (aw := aw) (np := np) (k := k) (hd0 := hd0) (done := done) (t := t) (w0 := w0) (cb := cb) (sb := sb) (pb := pb) (B := B) (n1 := n1) (k1 := k1) (a1 := a1) (hQ := rfl) (hK := by assumption) (hC := x1) (hBb := x2) (row := x3) (hG := hG) (hP := x7) (hS := hS2) (hW := x8) (hBl := hBl2) (h1 := h1') (r1 := r1) (h2 := h2) (h3 := h3') (m := np - 1) (hnm := by omega)
end Go.Proofs.Ybulkdpks
