/-
  The law's own reckoning of what is wanted.
-/
import Derived.Test.YbulkdpjqRows
import Derived.WalkKit
import Derived.ProofKit
import Derived.OpenShut
import Derived.WalkLawsBesides
import Derived.BigQuiet
import Derived.Laws.BitsAllLaws
import Derived.Laws.StructEq
import Derived.Outline
import Derived.Test.YbulkdpjqHeap
import Derived.Test.YbulkdpjqAids
import Derived.Test.YbulkdpjqState
import Derived.Test.YbulkdpjqFew
import Derived.Test.YbulkdpjqHanded
import Derived.Test.YbulkdpjqRec
import Derived.Deep.RegionWith
import Derived.Deep.RegionHeld3
import Derived.Deep.DeepCutAuto
import Derived.Deep.DrawnRows
import Derived.Test.YbulkdpjqEnd
namespace Go.Proofs.Ybulkdpjq
open Go.ChangeShapes Go.WideShapes Go.ChangeAt Go.RowKit
open Go.ChangeMaps (setBlock)
set_option linter.unusedVariables false

set_option maxRecDepth 100000 in
set_option maxHeartbeats 1600000 in
theorem stage23 (i : Inp) (ok : Hid i.Ok) (w0 W : World) (ib kb : Nat) (B : Hid (Base i w0 ib kb W)) (s8 : Value) (h8 : Made W s8 i.tR i.q13 i.v9 i.v10 i.xs9 i.xs10) (s9 : Value) (h9 : Made W s9 i.tR i.q13 i.v9 i.v10 i.xs9 i.xs10) (kk : Nat) (hkk : W.heap[kk]? = some (.cells (KC i.tS i.kS) 37)) (s11 : Value) (h11 : Hand i W s11) (s12 : Value) (h12 : Hand i W s12) (tb ub mb : Nat) (s16 : Value) (htb : W.heap[tb]? = some (.cells #[.int .u64 (i.H % 1000000000), .int .i64 (i.H / 1000000000), .pointer none] 40)) (hub : W.heap[ub]? = some (.cells #[.int .u64 (i.A % 1000000000), .int .i64 (i.A / 1000000000), .pointer none] 40)) (hE : Ents i W mb s11 s16) (sb : Nat) (hsb : W.heap[sb]? = some (.cells (SC mb i.L) 55)) (s19 : Value) (h19 : s19 = .bool i.found) (vin u20 u21 u22 u23 u24 u25 u26 u27 u28 u29 u30 u31 u32 u33 u34 u35 u36 u37 u38 u39 u40 u41 u42 u43 u44 u45 u46 u47 u48 u49 u50 u51 u52 u53 u54 u55 u56 u57 u58 u59 u60 u61 u62 u63 u64 u65 u66 u67 u68 u69 u70 u71 u72 u73 u74 u75 u76 u77 u78 u79 u80 u81 u82 u83 u84 u85 u86 u87 u88 u89 u90 u91 u92 u93 u94 u95 u96 u97 u98 u99 u100 u101 u102 u103 u104 u105 u106 u107 u108 u109 u110 u111 u112 u113 u114 u115 u116 u117 u118 u119 u120 u121 u122 u123 u124 u125 u126 u127 u128 u129 u130 u131 u132 u133 u134 u135 u136 u137 u138 u139 u140 u141 u142 u143 u144 u145 u146 u147 u148 u149 u150 u151 u152 u153 u154 u155 u156 u157 u158 u159 u160 u161 u162 u163 u164 u165 u166 u167 u168 u169 u170 u171 u172 u173 u174 u175 u176 u177 u178 u179 u180 u181 u182 u183 u184 u185 u186 u187 u188 u189 u190 u191 u192 u193 u194 u195 u196 u197 u198 u199 u200 u201 u202 u203 u204 u205 u206 u207 u208 u209 u210 u211 u212 u213 u214 u215 u216 u217 u218 u219 u220 u221 u222 u223 u224 u225 u226 u227 u228 u229 u230 u231 u232 u233 u234 u235 u236 u237 u238 u239 u240 u241 u242 u243 u244 u245 u246 u247 u248 u249 u250 u251 u252 u253 u254 u255 u256 u257 u258 u259 u260 u261 u262 u263 u264 u265 u266 u267 u268 u269 u270 u271 u272 u273 u274 u275 u276 u277 u278 u279 u280 u281 u282 u283 u284 u285 u286 u287 u288 u289 u290 u291 u292 u293 u294 u295 u296 u297 u298 u299 u300 u301 u302 u303 u304 : Value) (Q : Exit → Act → World → Prop) (hQ : Q = bodyPost Yba.prog Yba.f3 fun e w' => e = .returned (.bool true) ∧ Below w0.heap.size w0 w')
    (K : Act → World → Prop) (hK : ∀ a w, (tl 24 (Yba.f3.body.getD .skip)).wp Yba.prog Q a w → K a w) :
    (hd (tl 23 (Yba.f3.body.getD .skip))).wp Yba.prog (Exit.then K Q) { tmps := List.toArray (vin :: .pointer (some ⟨ib, 0, none⟩) :: .bool false :: .int .i64 i.H :: .int .i64 i.L :: .int .i64 i.A :: .string i.tR :: .pointer (some ⟨kb, 0, none⟩) :: s8 :: s9 :: .pointer (some ⟨kk, 0, none⟩) :: s11 :: s12 :: .pointer (some ⟨tb, 0, none⟩) :: .pointer (some ⟨ub, 0, none⟩) :: .map (some mb) :: s16 :: .pointer (some ⟨sb, 0, none⟩) :: .bool i.want :: s19 :: u20 :: u21 :: u22 :: u23 :: u24 :: u25 :: u26 :: u27 :: u28 :: u29 :: u30 :: u31 :: u32 :: u33 :: u34 :: u35 :: u36 :: u37 :: u38 :: u39 :: u40 :: u41 :: u42 :: u43 :: u44 :: u45 :: u46 :: u47 :: u48 :: u49 :: u50 :: u51 :: u52 :: u53 :: u54 :: u55 :: u56 :: u57 :: u58 :: u59 :: u60 :: u61 :: u62 :: u63 :: u64 :: u65 :: u66 :: u67 :: u68 :: u69 :: u70 :: u71 :: u72 :: u73 :: u74 :: u75 :: u76 :: u77 :: u78 :: u79 :: u80 :: u81 :: u82 :: u83 :: u84 :: u85 :: u86 :: u87 :: u88 :: u89 :: u90 :: u91 :: u92 :: u93 :: u94 :: u95 :: u96 :: u97 :: u98 :: u99 :: u100 :: u101 :: u102 :: u103 :: u104 :: u105 :: u106 :: u107 :: u108 :: u109 :: u110 :: u111 :: u112 :: u113 :: u114 :: u115 :: u116 :: u117 :: u118 :: u119 :: u120 :: u121 :: u122 :: u123 :: u124 :: u125 :: u126 :: u127 :: u128 :: u129 :: u130 :: u131 :: u132 :: u133 :: u134 :: u135 :: u136 :: u137 :: u138 :: u139 :: u140 :: u141 :: u142 :: u143 :: u144 :: u145 :: u146 :: u147 :: u148 :: u149 :: u150 :: u151 :: u152 :: u153 :: u154 :: u155 :: u156 :: u157 :: u158 :: u159 :: u160 :: u161 :: u162 :: u163 :: u164 :: u165 :: u166 :: u167 :: u168 :: u169 :: u170 :: u171 :: u172 :: u173 :: u174 :: u175 :: u176 :: u177 :: u178 :: u179 :: u180 :: u181 :: u182 :: u183 :: u184 :: u185 :: u186 :: u187 :: u188 :: u189 :: u190 :: u191 :: u192 :: u193 :: u194 :: u195 :: u196 :: u197 :: u198 :: u199 :: u200 :: u201 :: u202 :: u203 :: u204 :: u205 :: u206 :: u207 :: u208 :: u209 :: u210 :: u211 :: u212 :: u213 :: u214 :: u215 :: u216 :: u217 :: u218 :: u219 :: u220 :: u221 :: u222 :: u223 :: u224 :: u225 :: u226 :: u227 :: u228 :: u229 :: u230 :: u231 :: u232 :: u233 :: u234 :: u235 :: u236 :: u237 :: u238 :: u239 :: u240 :: u241 :: u242 :: u243 :: u244 :: u245 :: u246 :: u247 :: u248 :: u249 :: u250 :: u251 :: u252 :: u253 :: u254 :: u255 :: u256 :: u257 :: u258 :: u259 :: u260 :: u261 :: u262 :: u263 :: u264 :: u265 :: u266 :: u267 :: u268 :: u269 :: u270 :: u271 :: u272 :: u273 :: u274 :: u275 :: u276 :: u277 :: u278 :: u279 :: u280 :: u281 :: u282 :: u283 :: u284 :: u285 :: u286 :: u287 :: u288 :: u289 :: u290 :: u291 :: u292 :: u293 :: u294 :: u295 :: u296 :: u297 :: u298 :: u299 :: u300 :: u301 :: u302 :: u303 :: u304 :: []), defers := [] } W := by
  have g5 : W.cell? ⟨ib, 7, none⟩ = some (.bool i.b7) := cell_at B.out.box rfl
  have g6 : W.cell? ⟨ib, 13, none⟩ = some (.int .u64 i.q13) := cell_at B.out.box rfl
  have g7 : W.cell? ⟨ib, 15, none⟩ = some (.bool i.b15) := cell_at B.out.box rfl
  have g8 : W.cell? ⟨ib, 16, none⟩ = some (.bool i.b16) := cell_at B.out.box rfl
  have hwr : IntKind.i64.wrap (i.H + i.L) = i.H + i.L := wrap_sum ok.out
  have H19 := hide h19
  replace h8 := hide h8
  replace h9 := hide h9
  replace hkk := hide hkk
  replace h11 := hide h11
  replace h12 := hide h12
  replace htb := hide htb
  replace hub := hide hub
  replace hE := hide hE
  replace hsb := hide hsb
  cases hf : i.found with
  | false =>
    rw [hf] at h19
    subst h19
    dsimp only [Yba.f3, Option.getD, tl, hd] at hK ⊢
    subst hQ
    have hw := hide (show i.want = false by simp [Inp.want, hf])
    go_upto_region 39 with fail
    apply stage24 (ok := ok) (B := hide (B.out.ext (Grew.refl _))) (h8 := h8.out.ext (Grew.refl _)) (h9 := h9.out.ext (Grew.refl _)) (hkk := (Grew.refl _).blk hkk.out) (h11 := h11.out.ext (Grew.refl _)) (h12 := h12.out.ext (Grew.refl _)) (htb := (Grew.refl _).blk htb.out) (hub := (Grew.refl _).blk hub.out) (hE := hE.out.ext (Grew.refl _)) (hsb := (Grew.refl _).blk hsb.out) (h20 := by rw [hw.out]) (hQ := rfl) (hK := by assumption) (hK1 := by assumption)
  | true =>
    rw [hf] at h19
    subst h19
    cases h7 : i.b7 with
    | false =>
      rw [h7] at g5
      dsimp only [Yba.f3, Option.getD, tl, hd] at hK ⊢
      subst hQ
      have hw := hide (show i.want = false by simp [Inp.want, h7])
      go_upto_region 39 with fail
      apply stage24 (ok := ok) (B := hide (B.out.ext (Grew.refl _))) (h8 := h8.out.ext (Grew.refl _)) (h9 := h9.out.ext (Grew.refl _)) (hkk := (Grew.refl _).blk hkk.out) (h11 := h11.out.ext (Grew.refl _)) (h12 := h12.out.ext (Grew.refl _)) (htb := (Grew.refl _).blk htb.out) (hub := (Grew.refl _).blk hub.out) (hE := hE.out.ext (Grew.refl _)) (hsb := (Grew.refl _).blk hsb.out) (h20 := by rw [hw.out]) (hQ := rfl) (hK := by assumption) (hK1 := by assumption)
    | true =>
      rw [h7] at g5
      obtain ⟨rb, v, g, rfl, hr, hn1, hn2, hv, hg⟩ := h8.out
      obtain ⟨hb, v', g', rfl, hr', hm1, hm2, hv', hg'⟩ : Made W s11 (typS i.a2) i.hq i.hv i.hg i.hxs i.hys := by
        rcases h11.out with ⟨_, h⟩ | ⟨h, _⟩
        · exact h
        · rw [h7] at h; cases h
      have c1 := hr.cells.2.1
      have c5 := hr.cells.2.2.2
      have d1 := hr'.cells.2.1
      have d4 := hr'.cells.2.2.1
      have d5 := hr'.cells.2.2.2
      have HV : Hid (∀ n, Calls Yba.prog 8 #[v, v'] (W.drewN n) fun e w' => e = .returned (.bool (i.xs9 == i.hxs)) ∧ ∃ m, w' = (W.drewN n).drewN m) := fun n =>
        beq_any ok.out.m9 (Inp.hxs_ok ok.out).2 (((Grew.refl W).drewN n).isB hv) (((Grew.refl W).drewN n).isB hv')
      have HG : Hid (∀ n, Calls Yba.prog 8 #[g, g'] (W.drewN n) fun e w' => e = .returned (.bool (i.xs10 == i.hys)) ∧ ∃ m, w' = (W.drewN n).drewN m) := fun n =>
        beq_any ok.out.m10 (Inp.hys_ok ok.out).2 (((Grew.refl W).drewN n).isB hg) (((Grew.refl W).drewN n).isB hg')
      clear hr hr' hn1 hn2 hm1 hm2 hv hg hv' hg'
      dsimp only [Yba.f3, Option.getD, tl, hd] at hK ⊢
      subst hQ
      cases hs : i.signed with
      | false =>
        have hs' : (i.tR.toList == [115, 105, 103, 110, 101, 100]) = false := hs
        cases hx : (i.xs9 == i.hxs) with
        | false =>
          rw [hx] at HV
          have hw := hide (show i.want = false by simp [Inp.want, Inp.same, hf, h7, hs, hx])
          go_upto_region 37 with fail
          go_quiet ((go_at_call 8; exact quiet_one (HV.out _)))
          go_upto_region 39 with fail
          apply stage24 (ok := ok) (B := hide (B.out.ext ((Grew.refl _).drewN _))) (h8 := h8.out.ext ((Grew.refl _).drewN _)) (h9 := h9.out.ext ((Grew.refl _).drewN _)) (hkk := ((Grew.refl _).drewN _).blk hkk.out) (h11 := h11.out.ext ((Grew.refl _).drewN _)) (h12 := h12.out.ext ((Grew.refl _).drewN _)) (htb := ((Grew.refl _).drewN _).blk htb.out) (hub := ((Grew.refl _).drewN _).blk hub.out) (hE := hE.out.ext ((Grew.refl _).drewN _)) (hsb := ((Grew.refl _).drewN _).blk hsb.out) (h20 := by rw [hw.out]) (hQ := rfl) (hK := by assumption) (hK1 := by assumption)
        | true =>
          rw [hx] at HV
          cases h16 : i.b16 with
          | true =>
            rw [h16] at g8
            have hw := hide (show i.want = decide (i.A ≤ i.H + i.L) by simp [Inp.want, Inp.same, hf, h7, hs, hx, h16])
            go_upto_region 37 with fail
            go_quiet ((go_at_call 8; exact quiet_one (HV.out _)))
            go_upto_region 39 with fail
            apply stage24 (ok := ok) (B := hide (B.out.ext ((Grew.refl _).drewN _))) (h8 := h8.out.ext ((Grew.refl _).drewN _)) (h9 := h9.out.ext ((Grew.refl _).drewN _)) (hkk := ((Grew.refl _).drewN _).blk hkk.out) (h11 := h11.out.ext ((Grew.refl _).drewN _)) (h12 := h12.out.ext ((Grew.refl _).drewN _)) (htb := ((Grew.refl _).drewN _).blk htb.out) (hub := ((Grew.refl _).drewN _).blk hub.out) (hE := hE.out.ext ((Grew.refl _).drewN _)) (hsb := ((Grew.refl _).drewN _).blk hsb.out) (h20 := by rw [hw.out]) (hQ := rfl) (hK := by assumption) (hK1 := by assumption)
          | false =>
            rw [h16] at g8
            cases h15 : i.b15 with
            | true =>
              rw [h15] at g7
              have hw := hide (show i.want = false by simp [Inp.want, Inp.same, hf, h7, hs, hx, h16, h15])
              go_upto_region 37 with fail
              go_quiet ((go_at_call 8; exact quiet_one (HV.out _)))
              go_upto_region 39 with fail
              apply stage24 (ok := ok) (B := hide (B.out.ext ((Grew.refl _).drewN _))) (h8 := h8.out.ext ((Grew.refl _).drewN _)) (h9 := h9.out.ext ((Grew.refl _).drewN _)) (hkk := ((Grew.refl _).drewN _).blk hkk.out) (h11 := h11.out.ext ((Grew.refl _).drewN _)) (h12 := h12.out.ext ((Grew.refl _).drewN _)) (htb := ((Grew.refl _).drewN _).blk htb.out) (hub := ((Grew.refl _).drewN _).blk hub.out) (hE := hE.out.ext ((Grew.refl _).drewN _)) (hsb := ((Grew.refl _).drewN _).blk hsb.out) (h20 := by rw [hw.out]) (hQ := rfl) (hK := by assumption) (hK1 := by assumption)
            | false =>
              rw [h15] at g7
              have hw := hide (show i.want = decide (i.A ≤ i.H + i.L) by simp [Inp.want, Inp.same, hf, h7, hs, hx, h16, h15])
              go_upto_region 37 with fail
              go_quiet ((go_at_call 8; exact quiet_one (HV.out _)))
              go_upto_region 39 with fail
              apply stage24 (ok := ok) (B := hide (B.out.ext ((Grew.refl _).drewN _))) (h8 := h8.out.ext ((Grew.refl _).drewN _)) (h9 := h9.out.ext ((Grew.refl _).drewN _)) (hkk := ((Grew.refl _).drewN _).blk hkk.out) (h11 := h11.out.ext ((Grew.refl _).drewN _)) (h12 := h12.out.ext ((Grew.refl _).drewN _)) (htb := ((Grew.refl _).drewN _).blk htb.out) (hub := ((Grew.refl _).drewN _).blk hub.out) (hE := hE.out.ext ((Grew.refl _).drewN _)) (hsb := ((Grew.refl _).drewN _).blk hsb.out) (h20 := by rw [hw.out]) (hQ := rfl) (hK := by assumption) (hK1 := by assumption)
      | true =>
        have hs' : (i.tR.toList == [115, 105, 103, 110, 101, 100]) = true := hs
        cases hq : (i.q13 == i.hq) with
        | false =>
          have hw := hide (show i.want = false by simp [Inp.want, Inp.same, hf, h7, hs, hq])
          go_upto_region 36 with fail
          go_quiet (fail)
          go_upto_region 39 with fail
          apply stage24 (ok := ok) (B := hide (B.out.ext ((Grew.refl _).drewN _))) (h8 := h8.out.ext ((Grew.refl _).drewN _)) (h9 := h9.out.ext ((Grew.refl _).drewN _)) (hkk := ((Grew.refl _).drewN _).blk hkk.out) (h11 := h11.out.ext ((Grew.refl _).drewN _)) (h12 := h12.out.ext ((Grew.refl _).drewN _)) (htb := ((Grew.refl _).drewN _).blk htb.out) (hub := ((Grew.refl _).drewN _).blk hub.out) (hE := hE.out.ext ((Grew.refl _).drewN _)) (hsb := ((Grew.refl _).drewN _).blk hsb.out) (h20 := by rw [hw.out]) (hQ := rfl) (hK := by assumption) (hK1 := by assumption)
        | true =>
          cases hx : (i.xs10 == i.hys) with
          | false =>
            rw [hx] at HG
            have hw := hide (show i.want = false by simp [Inp.want, Inp.same, hf, h7, hs, hq, hx])
            go_upto_region 36 with fail
            go_quiet ((go_at_call 8; exact quiet_one (HG.out _)))
            go_upto_region 39 with fail
            apply stage24 (ok := ok) (B := hide (B.out.ext ((Grew.refl _).drewN _))) (h8 := h8.out.ext ((Grew.refl _).drewN _)) (h9 := h9.out.ext ((Grew.refl _).drewN _)) (hkk := ((Grew.refl _).drewN _).blk hkk.out) (h11 := h11.out.ext ((Grew.refl _).drewN _)) (h12 := h12.out.ext ((Grew.refl _).drewN _)) (htb := ((Grew.refl _).drewN _).blk htb.out) (hub := ((Grew.refl _).drewN _).blk hub.out) (hE := hE.out.ext ((Grew.refl _).drewN _)) (hsb := ((Grew.refl _).drewN _).blk hsb.out) (h20 := by rw [hw.out]) (hQ := rfl) (hK := by assumption) (hK1 := by assumption)
          | true =>
            rw [hx] at HG
            cases h16 : i.b16 with
            | true =>
              rw [h16] at g8
              have hw := hide (show i.want = decide (i.A ≤ i.H + i.L) by simp [Inp.want, Inp.same, hf, h7, hs, hq, hx, h16])
              go_upto_region 36 with fail
              go_quiet ((go_at_call 8; exact quiet_one (HG.out _)))
              go_upto_region 39 with fail
              apply stage24 (ok := ok) (B := hide (B.out.ext ((Grew.refl _).drewN _))) (h8 := h8.out.ext ((Grew.refl _).drewN _)) (h9 := h9.out.ext ((Grew.refl _).drewN _)) (hkk := ((Grew.refl _).drewN _).blk hkk.out) (h11 := h11.out.ext ((Grew.refl _).drewN _)) (h12 := h12.out.ext ((Grew.refl _).drewN _)) (htb := ((Grew.refl _).drewN _).blk htb.out) (hub := ((Grew.refl _).drewN _).blk hub.out) (hE := hE.out.ext ((Grew.refl _).drewN _)) (hsb := ((Grew.refl _).drewN _).blk hsb.out) (h20 := by rw [hw.out]) (hQ := rfl) (hK := by assumption) (hK1 := by assumption)
            | false =>
              rw [h16] at g8
              cases h15 : i.b15 with
              | true =>
                rw [h15] at g7
                have hw := hide (show i.want = false by simp [Inp.want, Inp.same, hf, h7, hs, hq, hx, h16, h15])
                go_upto_region 36 with fail
                go_quiet ((go_at_call 8; exact quiet_one (HG.out _)))
                go_upto_region 39 with fail
                apply stage24 (ok := ok) (B := hide (B.out.ext ((Grew.refl _).drewN _))) (h8 := h8.out.ext ((Grew.refl _).drewN _)) (h9 := h9.out.ext ((Grew.refl _).drewN _)) (hkk := ((Grew.refl _).drewN _).blk hkk.out) (h11 := h11.out.ext ((Grew.refl _).drewN _)) (h12 := h12.out.ext ((Grew.refl _).drewN _)) (htb := ((Grew.refl _).drewN _).blk htb.out) (hub := ((Grew.refl _).drewN _).blk hub.out) (hE := hE.out.ext ((Grew.refl _).drewN _)) (hsb := ((Grew.refl _).drewN _).blk hsb.out) (h20 := by rw [hw.out]) (hQ := rfl) (hK := by assumption) (hK1 := by assumption)
              | false =>
                rw [h15] at g7
                have hw := hide (show i.want = decide (i.A ≤ i.H + i.L) by simp [Inp.want, Inp.same, hf, h7, hs, hq, hx, h16, h15])
                go_upto_region 36 with fail
                go_quiet ((go_at_call 8; exact quiet_one (HG.out _)))
                go_upto_region 39 with fail
                apply stage24 (ok := ok) (B := hide (B.out.ext ((Grew.refl _).drewN _))) (h8 := h8.out.ext ((Grew.refl _).drewN _)) (h9 := h9.out.ext ((Grew.refl _).drewN _)) (hkk := ((Grew.refl _).drewN _).blk hkk.out) (h11 := h11.out.ext ((Grew.refl _).drewN _)) (h12 := h12.out.ext ((Grew.refl _).drewN _)) (htb := ((Grew.refl _).drewN _).blk htb.out) (hub := ((Grew.refl _).drewN _).blk hub.out) (hE := hE.out.ext ((Grew.refl _).drewN _)) (hsb := ((Grew.refl _).drewN _).blk hsb.out) (h20 := by rw [hw.out]) (hQ := rfl) (hK := by assumption) (hK1 := by assumption)

set_option maxRecDepth 100000 in
set_option maxHeartbeats 1600000 in
theorem stage22 (i : Inp) (ok : Hid i.Ok) (w0 W : World) (ib kb : Nat) (B : Hid (Base i w0 ib kb W)) (s8 : Value) (h8 : Made W s8 i.tR i.q13 i.v9 i.v10 i.xs9 i.xs10) (s9 : Value) (h9 : Made W s9 i.tR i.q13 i.v9 i.v10 i.xs9 i.xs10) (kk : Nat) (hkk : W.heap[kk]? = some (.cells (KC i.tS i.kS) 37)) (s11 : Value) (h11 : Hand i W s11) (s12 : Value) (h12 : Hand i W s12) (tb ub mb : Nat) (s16 : Value) (htb : W.heap[tb]? = some (.cells #[.int .u64 (i.H % 1000000000), .int .i64 (i.H / 1000000000), .pointer none] 40)) (hub : W.heap[ub]? = some (.cells #[.int .u64 (i.A % 1000000000), .int .i64 (i.A / 1000000000), .pointer none] 40)) (hE : Ents i W mb s11 s16) (sb : Nat) (hsb : W.heap[sb]? = some (.cells (SC mb i.L) 55)) (vin u19 u20 u21 u22 u23 u24 u25 u26 u27 u28 u29 u30 u31 u32 u33 u34 u35 u36 u37 u38 u39 u40 u41 u42 u43 u44 u45 u46 u47 u48 u49 u50 u51 u52 u53 u54 u55 u56 u57 u58 u59 u60 u61 u62 u63 u64 u65 u66 u67 u68 u69 u70 u71 u72 u73 u74 u75 u76 u77 u78 u79 u80 u81 u82 u83 u84 u85 u86 u87 u88 u89 u90 u91 u92 u93 u94 u95 u96 u97 u98 u99 u100 u101 u102 u103 u104 u105 u106 u107 u108 u109 u110 u111 u112 u113 u114 u115 u116 u117 u118 u119 u120 u121 u122 u123 u124 u125 u126 u127 u128 u129 u130 u131 u132 u133 u134 u135 u136 u137 u138 u139 u140 u141 u142 u143 u144 u145 u146 u147 u148 u149 u150 u151 u152 u153 u154 u155 u156 u157 u158 u159 u160 u161 u162 u163 u164 u165 u166 u167 u168 u169 u170 u171 u172 u173 u174 u175 u176 u177 u178 u179 u180 u181 u182 u183 u184 u185 u186 u187 u188 u189 u190 u191 u192 u193 u194 u195 u196 u197 u198 u199 u200 u201 u202 u203 u204 u205 u206 u207 u208 u209 u210 u211 u212 u213 u214 u215 u216 u217 u218 u219 u220 u221 u222 u223 u224 u225 u226 u227 u228 u229 u230 u231 u232 u233 u234 u235 u236 u237 u238 u239 u240 u241 u242 u243 u244 u245 u246 u247 u248 u249 u250 u251 u252 u253 u254 u255 u256 u257 u258 u259 u260 u261 u262 u263 u264 u265 u266 u267 u268 u269 u270 u271 u272 u273 u274 u275 u276 u277 u278 u279 u280 u281 u282 u283 u284 u285 u286 u287 u288 u289 u290 u291 u292 u293 u294 u295 u296 u297 u298 u299 u300 u301 u302 u303 u304 : Value) (Q : Exit → Act → World → Prop) (hQ : Q = bodyPost Yba.prog Yba.f3 fun e w' => e = .returned (.bool true) ∧ Below w0.heap.size w0 w')
    (K : Act → World → Prop) (hK : ∀ a w, (tl 23 (Yba.f3.body.getD .skip)).wp Yba.prog Q a w → K a w) :
    (hd (tl 22 (Yba.f3.body.getD .skip))).wp Yba.prog (Exit.then K Q) { tmps := List.toArray (vin :: .pointer (some ⟨ib, 0, none⟩) :: .bool false :: .int .i64 i.H :: .int .i64 i.L :: .int .i64 i.A :: .string i.tR :: .pointer (some ⟨kb, 0, none⟩) :: s8 :: s9 :: .pointer (some ⟨kk, 0, none⟩) :: s11 :: s12 :: .pointer (some ⟨tb, 0, none⟩) :: .pointer (some ⟨ub, 0, none⟩) :: .map (some mb) :: s16 :: .pointer (some ⟨sb, 0, none⟩) :: .bool i.want :: u19 :: u20 :: u21 :: u22 :: u23 :: u24 :: u25 :: u26 :: u27 :: u28 :: u29 :: u30 :: u31 :: u32 :: u33 :: u34 :: u35 :: u36 :: u37 :: u38 :: u39 :: u40 :: u41 :: u42 :: u43 :: u44 :: u45 :: u46 :: u47 :: u48 :: u49 :: u50 :: u51 :: u52 :: u53 :: u54 :: u55 :: u56 :: u57 :: u58 :: u59 :: u60 :: u61 :: u62 :: u63 :: u64 :: u65 :: u66 :: u67 :: u68 :: u69 :: u70 :: u71 :: u72 :: u73 :: u74 :: u75 :: u76 :: u77 :: u78 :: u79 :: u80 :: u81 :: u82 :: u83 :: u84 :: u85 :: u86 :: u87 :: u88 :: u89 :: u90 :: u91 :: u92 :: u93 :: u94 :: u95 :: u96 :: u97 :: u98 :: u99 :: u100 :: u101 :: u102 :: u103 :: u104 :: u105 :: u106 :: u107 :: u108 :: u109 :: u110 :: u111 :: u112 :: u113 :: u114 :: u115 :: u116 :: u117 :: u118 :: u119 :: u120 :: u121 :: u122 :: u123 :: u124 :: u125 :: u126 :: u127 :: u128 :: u129 :: u130 :: u131 :: u132 :: u133 :: u134 :: u135 :: u136 :: u137 :: u138 :: u139 :: u140 :: u141 :: u142 :: u143 :: u144 :: u145 :: u146 :: u147 :: u148 :: u149 :: u150 :: u151 :: u152 :: u153 :: u154 :: u155 :: u156 :: u157 :: u158 :: u159 :: u160 :: u161 :: u162 :: u163 :: u164 :: u165 :: u166 :: u167 :: u168 :: u169 :: u170 :: u171 :: u172 :: u173 :: u174 :: u175 :: u176 :: u177 :: u178 :: u179 :: u180 :: u181 :: u182 :: u183 :: u184 :: u185 :: u186 :: u187 :: u188 :: u189 :: u190 :: u191 :: u192 :: u193 :: u194 :: u195 :: u196 :: u197 :: u198 :: u199 :: u200 :: u201 :: u202 :: u203 :: u204 :: u205 :: u206 :: u207 :: u208 :: u209 :: u210 :: u211 :: u212 :: u213 :: u214 :: u215 :: u216 :: u217 :: u218 :: u219 :: u220 :: u221 :: u222 :: u223 :: u224 :: u225 :: u226 :: u227 :: u228 :: u229 :: u230 :: u231 :: u232 :: u233 :: u234 :: u235 :: u236 :: u237 :: u238 :: u239 :: u240 :: u241 :: u242 :: u243 :: u244 :: u245 :: u246 :: u247 :: u248 :: u249 :: u250 :: u251 :: u252 :: u253 :: u254 :: u255 :: u256 :: u257 :: u258 :: u259 :: u260 :: u261 :: u262 :: u263 :: u264 :: u265 :: u266 :: u267 :: u268 :: u269 :: u270 :: u271 :: u272 :: u273 :: u274 :: u275 :: u276 :: u277 :: u278 :: u279 :: u280 :: u281 :: u282 :: u283 :: u284 :: u285 :: u286 :: u287 :: u288 :: u289 :: u290 :: u291 :: u292 :: u293 :: u294 :: u295 :: u296 :: u297 :: u298 :: u299 :: u300 :: u301 :: u302 :: u303 :: u304 :: []), defers := [] } W := by
  have g1 : W.cell? ⟨ib, 5, none⟩ = some (.bool i.b5) := cell_at B.out.box rfl
  have g2 : W.cell? ⟨kk, 0, none⟩ = some (.string i.tS) := cell_at hkk rfl
  replace h8 := hide h8
  replace h9 := hide h9
  replace hkk := hide hkk
  replace h11 := hide h11
  replace h12 := hide h12
  replace htb := hide htb
  replace hub := hide hub
  replace hE := hide hE
  replace hsb := hide hsb
  dsimp only [Yba.f3, Option.getD, tl, hd] at hK ⊢
  subst hQ
  obtain ⟨va, hva⟩ : ∃ va, va = Value.agg (idC i.kS) := ⟨_, rfl⟩
  obtain ⟨vb, hvb⟩ : ∃ vb, vb = Value.agg (idC i.a3) := ⟨_, rfl⟩
  have E30 : ∀ w, (binOp .eql 30 va vb).run Yba.prog w = .ok (.bool (i.kS == i.a3)) w := by
    rw [hva, hvb]; exact eql30 i.kS i.a3 (u8_wf (Inp.kS_ok ok.out)) (u8_wf ok.out.a3)
  have G30 : ∀ x y w, (eqGuard .eql 30 x y va vb).run Yba.prog w = .ok () w := by
    rw [hva, hvb]; exact fun x y w => guard30 x y _ _ w
  have HVA := hide hva
  have HVB := hide hvb
  clear hva hvb
  cases hp : i.b5 with
  | false =>
    rw [hp] at g1
    have hf := hide (show i.found = false by simp [Inp.found, hp])
    go_upto_region 32 with fail
    apply stage23 (ok := ok) (B := hide (B.out.ext (Grew.refl _))) (h8 := h8.out.ext (Grew.refl _)) (h9 := h9.out.ext (Grew.refl _)) (hkk := (Grew.refl _).blk hkk.out) (h11 := h11.out.ext (Grew.refl _)) (h12 := h12.out.ext (Grew.refl _)) (htb := (Grew.refl _).blk htb.out) (hub := (Grew.refl _).blk hub.out) (hE := hE.out.ext (Grew.refl _)) (hsb := (Grew.refl _).blk hsb.out) (h19 := by rw [hf.out]) (hQ := rfl) (hK := by assumption)
  | true =>
    rw [hp] at g1
    cases hx : (i.tS.toList == i.tR.toList) with
    | false =>
      have hf := hide (show i.found = false by simp [Inp.found, hp, sameKey_swap, hx])
      go_upto_region 32 with fail
      apply stage23 (ok := ok) (B := hide (B.out.ext (Grew.refl _))) (h8 := h8.out.ext (Grew.refl _)) (h9 := h9.out.ext (Grew.refl _)) (hkk := (Grew.refl _).blk hkk.out) (h11 := h11.out.ext (Grew.refl _)) (h12 := h12.out.ext (Grew.refl _)) (htb := (Grew.refl _).blk htb.out) (hub := (Grew.refl _).blk hub.out) (hE := hE.out.ext (Grew.refl _)) (hsb := (Grew.refl _).blk hsb.out) (h19 := by rw [hf.out]) (hQ := rfl) (hK := by assumption)
    | true =>
      have hf := hide (show i.found = (i.kS == i.a3) by simp [Inp.found, hp, sameKey_swap, hx])
      go_upto_region 32 with (first | (refine wpList_load_as (by rfl) 30 (.tmp 178) rfl kk 1 rfl (idC i.kS).toList _ (range_tail hkk.out) Yba.underlying30 rfl info30 va HVA.out ?_) | (refine wpList_load_as (by rfl) 30 (.tmp 7) rfl kb 0 rfl (idC i.a3).toList _ (range_block B.out.key) Yba.underlying30 rfl info30 vb HVB.out ?_))
      apply stage23 (ok := ok) (B := hide (B.out.ext (Grew.refl _))) (h8 := h8.out.ext (Grew.refl _)) (h9 := h9.out.ext (Grew.refl _)) (hkk := (Grew.refl _).blk hkk.out) (h11 := h11.out.ext (Grew.refl _)) (h12 := h12.out.ext (Grew.refl _)) (htb := (Grew.refl _).blk htb.out) (hub := (Grew.refl _).blk hub.out) (hE := hE.out.ext (Grew.refl _)) (hsb := (Grew.refl _).blk hsb.out) (h19 := by rw [hf.out]) (hQ := rfl) (hK := by assumption)
end Go.Proofs.Ybulkdpjq
