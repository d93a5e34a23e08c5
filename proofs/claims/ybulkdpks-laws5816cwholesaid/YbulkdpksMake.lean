/-
  The law makes its workers.
-/
import Derived.Test.YbulkdpksRows
import Derived.WalkKit
import Derived.ProofKit
import Derived.OpenShut
import Derived.WalkLawsBesides
import Derived.BigQuiet
import Derived.Laws.BitsAllLaws
import Derived.Laws.StructEq
import Derived.Outline
import Derived.Test.YbulkdpksGive
import Derived.Deep.RegionWith
import Derived.Deep.RegionHeld3
import Derived.Deep.DeepCutAuto
import Derived.Deep.DrawnRows
namespace Go.Proofs.Ybulkdpks
open Go.ChangeShapes Go.WideShapes Go.ChangeAt Go.RowKit
open Go.ChangeMaps (setBlock)
set_option linter.unusedVariables false


/-- What lies in memory when i workers are made. -/
structure Work (w0 : World) (bb sb pb B L np i : Nat) (f : Nat → Int) (v : World) : Prop where
  buf : v.heap[bb]? = some (.cells (jobs f L).toArray 32)
  ws : v.heap[sb]? = some (.cells (ones (fun j => if j < i then .pointer (some ⟨B + j, 0, none⟩) else .pointer none) np).toArray 35)
  pk : v.heap[pb]? = some (.cells (pairs (fun j => if j < i then .pointer (some ⟨B + j, 0, none⟩) else .pointer none) (fun j => if j < i then .int .u64 (j : Int) else .int .u64 0) np).toArray 49)
  work : ∀ j, j < i → v.heap[B + j]? = some (.cells #[.int .u64 4294967296, .int .u32 0, .bool false, .int .u64 0] 46)
  size : v.heap.size = B + i
  below : Below w0.heap.size w0 v

theorem Work.step {w0 : World} {bb sb pb B L np i : Nat} {f : Nat → Int} {v : World} (h : Work w0 bb sb pb B L np i f v) (hi : i < np) (h0 : w0.heap.size ≤ bb) (o1 : bb < sb) (o2 : sb < pb) (o3 : pb < B) :
    Work w0 bb sb pb B L np (i + 1) f (((((v.alloc (.cells #[.int .u64 0, .int .u32 0, .bool false, .int .u64 0] 46)).setCell ⟨B + i, 0, none⟩ (.int .u64 4294967296)).setCell ⟨sb, i, none⟩ (.pointer (some ⟨B + i, 0, none⟩))).setCell ⟨pb, i * 2, none⟩ (.pointer (some ⟨B + i, 0, none⟩))).setCell ⟨pb, i * 2 + 1, none⟩ (.int .u64 (i : Int))) := by
  have hs := h.size
  refine ⟨?_, ?_, ?_, ?_, ?_, ?_⟩
  · rw [hp_setCell_ne (by simp; omega), hp_setCell_ne (by simp; omega), hp_setCell_ne (by simp; omega), hp_setCell_ne (by simp; omega), hp_alloc_lt (by omega)]
    exact h.buf
  · rw [hp_setCell_ne (by simp; omega), hp_setCell_ne (by simp; omega), hp_setCell_eq ((hp_setCell_ne (by simp; omega)).trans ((hp_alloc_lt (by omega)).trans h.ws)), ones_set _ _ _ _ hi]
    rw [ones_ext (fun p hp => ?_)]
    by_cases e : p = i
    · simp [e]
    · have e' : (p < i + 1) = (p < i) := propext (by omega)
      simp [e, e']
  · rw [hp_setCell_eq (hp_setCell_eq ((hp_setCell_ne (by simp; omega)).trans ((hp_setCell_ne (by simp; omega)).trans ((hp_alloc_lt (by omega)).trans h.pk)))), pairs_set _ _ _ _ _ _ hi]
    rw [pairs_ext (fun p hp => ?_)]
    by_cases e : p = i
    · simp [e]
    · have e' : (p < i + 1) = (p < i) := propext (by omega)
      simp [e, e']
  · intro j hj
    rw [hp_setCell_ne (by simp; omega), hp_setCell_ne (by simp; omega), hp_setCell_ne (by simp; omega)]
    by_cases e : j = i
    · subst e
      rw [hp_setCell_eq (hp_alloc_at hs.symm)]
      rfl
    · rw [hp_setCell_ne (by simp; omega), hp_alloc_lt (by omega)]
      exact h.work j (by omega)
  · rw [size_setCell, size_setCell, size_setCell, size_setCell]
    simp [hs]
    omega
  · exact Below.setCell (Below.setCell (Below.setCell (Below.setCell (Below.alloc h.below h.below.size _) (by simp; omega) _) (by simp; omega) _) (by simp; omega) _) (by simp; omega) _

set_option maxRecDepth 100000 in
set_option maxHeartbeats 3200000 in
theorem stage10 (slow : Bool) (room : Int) (aw np k hd0 : Nat) (done t : Int) (w0 W : World) (L h bb : Nat) (f : Nat → Int) (n1 : np ≤ 255) (k1 : k ≤ 255) (a1 : aw ≤ 255) (r0 : -9223372036854775808 ≤ room) (r1 : room ≤ 9223372036854775807) (hb0 : w0.heap.size ≤ bb) (hsz : W.heap.size = bb + 1)
    (hBb : W.heap[bb]? = some (.cells (jobs f L).toArray 32)) (row : Row L h k) (hf : ∀ i, i < k → f ((h + i) % L) = 1000 + i) (hBl : Below w0.heap.size w0 W) (u8 u9 u10 u11 u12 u13 u14 u15 u23 u24 u25 u26 u27 u28 u29 u30 u31 u32 u33 u34 u35 u36 u37 u38 u39 u40 u41 u42 u43 u44 u45 u46 u47 u48 u49 u50 u51 u52 u53 u54 u55 u56 u57 u58 u59 u60 u61 u62 u63 u64 u65 u66 u67 u68 u69 u70 u71 u72 u73 u74 u75 u76 u77 u78 u79 u80 u81 u82 u83 u84 u85 u86 u87 u88 u89 u90 u91 u92 u93 u94 u95 u96 u97 u98 u99 u100 u101 u102 u103 u104 u105 u106 u107 u108 u109 u110 u111 u112 u113 u114 u115 u116 u117 u118 u119 u120 u121 u122 u123 u124 u125 u126 u127 u128 u129 u130 u131 u132 u133 u134 u135 u136 u137 u138 u139 u140 u141 u142 u143 u144 u145 u146 u147 u148 u149 u150 u151 u152 u153 u154 u155 u156 u157 u158 u159 u160 u161 u162 u163 u164 u165 u166 u167 u168 u169 u170 u171 u172 u173 u174 u175 u176 u177 u178 u179 u180 u181 u182 u183 u184 u185 u186 u187 u188 u189 u190 u191 u192 u193 u194 u195 u196 u197 u198 u199 u200 u201 u202 u203 u204 u205 u206 u207 u208 u209 u210 u211 u212 u213 u214 u215 u216 u217 u218 u219 u220 u221 u222 u223 u224 u225 u226 u227 u228 u229 u230 u231 u232 u233 u234 u235 u236 u237 u238 u239 u240 u241 u242 u243 u244 u245 u246 u247 u248 u249 u250 u251 u252 u253 u254 u255 u256 u257 u258 u259 u260 u261 u262 u263 u264 u265 u266 u267 u268 u269 u270 u271 u272 u273 u274 u275 u276 u277 u278 u279 u280 u281 u282 u283 u284 u285 u286 u287 u288 u289 u290 u291 u292 u293 u294 u295 u296 u297 u298 u299 u300 u301 u302 u303 u304 u305 u306 u307 u308 u309 u310 u311 u312 u313 u314 u315 u316 u317 u318 u319 u320 u321 u322 u323 u324 u325 u326 u327 u328 u329 u330 : Value) (Q : Exit → Act → World → Prop) (hQ : Q = bodyPost Yba.prog Yba.f4 fun e w' => e = .returned (.bool true) ∧ Below w0.heap.size w0 w')
    (K : Act → World → Prop) (hK : ∀ a w, (tl 11 (Yba.f4.body.getD .skip)).wp Yba.prog Q a w → K a w) :
    (hd (tl 10 (Yba.f4.body.getD .skip))).wp Yba.prog (Exit.then K Q) { tmps := List.toArray (.bool slow :: .int .i64 room :: .int .u8 (aw : Nat) :: .int .u8 (np : Nat) :: .int .u8 (k : Nat) :: .int .u8 (hd0 : Nat) :: .int .u64 done :: .int .i64 t :: u8 :: u9 :: u10 :: u11 :: u12 :: u13 :: u14 :: u15 :: .bool false :: .int .i64 (np : Nat) :: .int .i64 (k : Nat) :: .int .i64 (aw : Nat) :: .int .i64 (L : Nat) :: .slice (some ⟨bb, 0, none⟩) L L :: .int .i64 (h : Nat) :: u23 :: u24 :: u25 :: u26 :: u27 :: u28 :: u29 :: u30 :: u31 :: u32 :: u33 :: u34 :: u35 :: u36 :: u37 :: u38 :: u39 :: u40 :: u41 :: u42 :: u43 :: u44 :: u45 :: u46 :: u47 :: u48 :: u49 :: u50 :: u51 :: u52 :: u53 :: u54 :: u55 :: u56 :: u57 :: u58 :: u59 :: u60 :: u61 :: u62 :: u63 :: u64 :: u65 :: u66 :: u67 :: u68 :: u69 :: u70 :: u71 :: u72 :: u73 :: u74 :: u75 :: u76 :: u77 :: u78 :: u79 :: u80 :: u81 :: u82 :: u83 :: u84 :: u85 :: u86 :: u87 :: u88 :: u89 :: u90 :: u91 :: u92 :: u93 :: u94 :: u95 :: u96 :: u97 :: u98 :: u99 :: u100 :: u101 :: u102 :: u103 :: u104 :: u105 :: u106 :: u107 :: u108 :: u109 :: u110 :: u111 :: u112 :: u113 :: u114 :: u115 :: u116 :: u117 :: u118 :: u119 :: u120 :: u121 :: u122 :: u123 :: u124 :: u125 :: u126 :: u127 :: u128 :: u129 :: u130 :: u131 :: u132 :: u133 :: u134 :: u135 :: u136 :: u137 :: u138 :: u139 :: u140 :: u141 :: u142 :: u143 :: u144 :: u145 :: u146 :: u147 :: u148 :: u149 :: u150 :: u151 :: u152 :: u153 :: u154 :: u155 :: u156 :: u157 :: u158 :: u159 :: u160 :: u161 :: u162 :: u163 :: u164 :: u165 :: u166 :: u167 :: u168 :: u169 :: u170 :: u171 :: u172 :: u173 :: u174 :: u175 :: u176 :: u177 :: u178 :: u179 :: u180 :: u181 :: u182 :: u183 :: u184 :: u185 :: u186 :: u187 :: u188 :: u189 :: u190 :: u191 :: u192 :: u193 :: u194 :: u195 :: u196 :: u197 :: u198 :: u199 :: u200 :: u201 :: u202 :: u203 :: u204 :: u205 :: u206 :: u207 :: u208 :: u209 :: u210 :: u211 :: u212 :: u213 :: u214 :: u215 :: u216 :: u217 :: u218 :: u219 :: u220 :: u221 :: u222 :: u223 :: u224 :: u225 :: u226 :: u227 :: u228 :: u229 :: u230 :: u231 :: u232 :: u233 :: u234 :: u235 :: u236 :: u237 :: u238 :: u239 :: u240 :: u241 :: u242 :: u243 :: u244 :: u245 :: u246 :: u247 :: u248 :: u249 :: u250 :: u251 :: u252 :: u253 :: u254 :: u255 :: u256 :: u257 :: u258 :: u259 :: u260 :: u261 :: u262 :: u263 :: u264 :: u265 :: u266 :: u267 :: u268 :: u269 :: u270 :: u271 :: u272 :: u273 :: u274 :: u275 :: u276 :: u277 :: u278 :: u279 :: u280 :: u281 :: u282 :: u283 :: u284 :: u285 :: u286 :: u287 :: u288 :: u289 :: u290 :: u291 :: u292 :: u293 :: u294 :: u295 :: u296 :: u297 :: u298 :: u299 :: u300 :: u301 :: u302 :: u303 :: u304 :: u305 :: u306 :: u307 :: u308 :: u309 :: u310 :: u311 :: u312 :: u313 :: u314 :: u315 :: u316 :: u317 :: u318 :: u319 :: u320 :: u321 :: u322 :: u323 :: u324 :: u325 :: u326 :: u327 :: u328 :: u329 :: u330 :: []), defers := [] } W := by
  dsimp only [Yba.f4, Option.getD, tl, hd] at hK ⊢
  subst hQ
  obtain ⟨W1, hW1⟩ : ∃ W1, W1 = W.alloc (.cells (ones (fun _ => .pointer none) np).toArray 35) := ⟨_, rfl⟩
  obtain ⟨W2, hW2⟩ : ∃ W2, W2 = W1.alloc (.cells (pairs (fun _ => .pointer none) (fun _ => .int .u64 0) np).toArray 49) := ⟨_, rfl⟩
  have z1 : W1.heap.size = bb + 2 := by rw [hW1]; simp [hsz]
  have z2 : W2.heap.size = bb + 3 := by rw [hW2]; simp [z1]
  have hmw := make_ws np n1 W
  have hmp := make_pk np n1 W1
  rw [← hW1, hsz] at hmw
  rw [← hW2, z1] at hmp
  have hS0 : W1.heap[bb + 1]? = some (.cells (ones (fun _ => .pointer none) np).toArray 35) := by rw [hW1]; exact hp_alloc_at hsz.symm
  have hP0 : W2.heap[bb + 2]? = some (.cells (pairs (fun _ => .pointer none) (fun _ => .int .u64 0) np).toArray 49) := by rw [hW2]; exact hp_alloc_at z1.symm
  have h0 : Work w0 bb (bb + 1) (bb + 2) (bb + 3) L np 0 f W2 := by
    refine ⟨?_, ?_, ?_, fun j hj => by omega, z2, ?_⟩
    · rw [hW2, hp_alloc_lt (by omega), hW1, hp_alloc_lt (by omega)]
      exact hBb
    · rw [hW2, hp_alloc_lt (by omega), hS0]
      rfl
    · rw [hP0]
      rfl
    · rw [hW2, hW1]
      exact Below.alloc (Below.alloc hBl hBl.size _) (Nat.le_trans hBl.size (by simp)) _
  obtain ⟨sb, hsb⟩ : ∃ sb, sb = bb + 1 := ⟨_, rfl⟩
  obtain ⟨pb, hpb⟩ : ∃ pb, pb = bb + 2 := ⟨_, rfl⟩
  obtain ⟨B, hB⟩ : ∃ B, B = bb + 3 := ⟨_, rfl⟩
  rw [← hsb, ← hpb, ← hB] at h0
  rw [← hsb] at hmw
  rw [← hpb] at hmp
  have o1 : bb < sb := by omega
  have o2 : sb < pb := by omega
  have o3 : pb < B := by omega
  have H0 := hide h0
  have HRW := hide row
  have HF := hide hf
  clear hsb hpb hB h0 row hf hBb hBl hS0 hP0 hW1 hW2 z1 z2 hsz
  go_wp2_with fail
  clear hmw hmp
  have nsp : sb ≠ pb := by omega
  go_loopw [26] (fun x wr => ∃ i : Nat, i ≤ np ∧ x = .int .i64 i ∧ Hid (Work w0 bb sb pb B L np i f wr)) (fun x _ => np - (intOf x).toNat)
  case atStart => exact ⟨0, Nat.zero_le _, rfl, H0⟩
  case round =>
    obtain ⟨i, hi, rfl, hWk⟩ := hrel
    by_cases hlt : i < np
    · have hs := hWk.out.size
      obtain ⟨X1, hX1⟩ : ∃ X1, X1 = wr.alloc (.cells #[.int .u64 0, .int .u32 0, .bool false, .int .u64 0] 46) := ⟨_, rfl⟩
      have b1 : X1.heap[B + i]? = some (.cells #[.int .u64 0, .int .u32 0, .bool false, .int .u64 0] 46) := by rw [hX1]; exact hp_alloc_at hs.symm
      have HAdd : Hid (Calls Yba.prog 5 #[.pointer (some ⟨B + i, 0, none⟩), .int .i64 1] X1 fun e w' => e = .returned (.tuple #[]) ∧ w' = X1.setCell ⟨B + i, 0, none⟩ (.int .u64 4294967296)) := wg_add1 (B + i) 0 _ X1 (cell_at b1 rfl) (frozen_at b1) (cell_at b1 rfl)
      obtain ⟨X2, hX2⟩ : ∃ X2, X2 = X1.setCell ⟨B + i, 0, none⟩ (.int .u64 4294967296) := ⟨_, rfl⟩
      have sS : X2.heap[sb]? = some (.cells (ones (fun j => if j < i then .pointer (some ⟨B + j, 0, none⟩) else .pointer none) np).toArray 35) := by
        rw [hX2, hp_setCell_ne (by simp; omega), hX1, hp_alloc_lt (by omega)]
        exact hWk.out.ws
      have sP : X2.heap[pb]? = some (.cells (pairs (fun j => if j < i then .pointer (some ⟨B + j, 0, none⟩) else .pointer none) (fun j => if j < i then .int .u64 (j : Int) else .int .u64 0) np).toArray 49) := by
        rw [hX2, hp_setCell_ne (by simp; omega), hX1, hp_alloc_lt (by omega)]
        exact hWk.out.pk
      have s0 : X2.cell? ⟨sb, i, none⟩ = some (.pointer none) := cell_at sS ((ones_get _ _ _ hlt).trans (by simp))
      have zs : X2.frozen? ⟨sb, i, none⟩ = false := frozen_at sS
      have p0 : X2.cell? ⟨pb, i * 2, none⟩ = some (.pointer none) := cell_at sP ((pairs_even _ _ _ _ hlt).trans (by simp))
      have p1 : X2.cell? ⟨pb, i * 2 + 1, none⟩ = some (.int .u64 0) := cell_at sP ((pairs_odd _ _ _ _ hlt).trans (by simp))
      have zp0 : X2.frozen? ⟨pb, i * 2, none⟩ = false := frozen_at sP
      have zp1 : X2.frozen? ⟨pb, i * 2 + 1, none⟩ = false := frozen_at sP
      have hstep := hide (hWk.out.step hlt hb0 o1 o2 o3)
      rw [← hX1, ← hX2] at hstep
      rw [← hX2] at HAdd
      have hi0 : (0 : Int) ≤ (i : Int) := by omega
      have hi1 : (i : Int) < (np : Int) := by omega
      have hiu : IntKind.u64.wrap (i : Int) = (i : Int) := by rw [IntKind.wrap_u64]; omega
      have HX1 := hide hX1
      have HSZ := hide hs
      clear hX1 hX2 hs sS sP b1
      go_upto_region 23 with fail
      rw [← HX1.out, HSZ.out]
      go_wp2_with (go_at_call 5; refine HAdd.out.mono ?_; rintro e w' ⟨rfl, rfl⟩)
      go_roundw
      case rel => exact ⟨i + 1, by omega, by go_num, hstep⟩
      case measure => simp [intOf]; omega
    · obtain rfl : np = i := by omega
      go_upto_region 26 with fail
      apply stage13 (slow := slow) (room := room) (aw := aw) (np := np) (k := k) (hd0 := hd0) (done := done) (t := t) (w0 := w0) (sb := sb) (pb := pb) (B := B) (L := L) (h := h) (bb := bb) (f := f) (n1 := n1) (k1 := k1) (a1 := a1) (r0 := r0) (r1 := r1) (hb0 := hb0) (o1 := o1) (o2 := o2) (o3 := o3) (hsz := hWk.out.size) (hQ := rfl) (hK := by assumption) (hBb := hWk.out.buf) (row := HRW.out) (hf := HF.out)
        (hP := by rw [hWk.out.pk, pairs_ext (fun p hp => ?_)]; rw [if_pos hp, if_pos hp]; exact ⟨rfl, rfl⟩) (hS := by rw [hWk.out.ws, ones_ext (fun p hp => ?_)]; rw [if_pos hp]) (hW := hWk.out.work) (hBl := hWk.out.below)
end Go.Proofs.Ybulkdpks
