/-
  The law's end: from the comparison of what was got with what was wanted on.
-/
import Derived.Test.YbulkdpjqRows
import Derived.WalkKit
import Derived.ProofKit
import Derived.OpenShut
import Derived.WalkLawsBesides
import Derived.BigQuiet
import Derived.Laws.BitsAllLaws
import Derived.Laws.StructEq
import Derived.Outline
import Derived.Test.YbulkdpjqHeap
import Derived.Test.YbulkdpjqAids
import Derived.Test.YbulkdpjqState
import Derived.Test.YbulkdpjqFew
import Derived.Test.YbulkdpjqHanded
import Derived.Test.YbulkdpjqRec
import Derived.Deep.RegionWith
import Derived.Deep.RegionHeld3
import Derived.Deep.DeepCutAuto
import Derived.Deep.DrawnRows
namespace Go.Proofs.Ybulkdpjq
open Go.ChangeShapes Go.WideShapes Go.ChangeAt Go.RowKit
open Go.ChangeMaps (setBlock)
set_option linter.unusedVariables false

set_option maxRecDepth 100000 in
set_option maxHeartbeats 1600000 in
theorem stage25 (i : Inp) (ok : Hid i.Ok) (w0 W : World) (ib kb : Nat) (B : Hid (Base i w0 ib kb W)) (s8 : Value) (h8 : Made W s8 i.tR i.q13 i.v9 i.v10 i.xs9 i.xs10) (s9 : Value) (h9 : Made W s9 i.tR i.q13 i.v9 i.v10 i.xs9 i.xs10) (kk : Nat) (hkk : W.heap[kk]? = some (.cells (KC i.tS i.kS) 37)) (s11 : Value) (h11 : Hand i W s11) (s12 : Value) (h12 : Hand i W s12) (tb ub mb : Nat) (s16 : Value) (htb : W.heap[tb]? = some (.cells #[.int .u64 (i.H % 1000000000), .int .i64 (i.H / 1000000000), .pointer none] 40)) (hub : W.heap[ub]? = some (.cells #[.int .u64 (i.A % 1000000000), .int .i64 (i.A / 1000000000), .pointer none] 40)) (hE : Ents i W mb s11 s16) (sb : Nat) (hsb : W.heap[sb]? = some (.cells (SC mb i.L) 55)) (vin u19 u21 u22 u23 u24 u25 u26 u27 u28 u29 u30 u31 u32 u33 u34 u35 u36 u37 u38 u39 u40 u41 u42 u43 u44 u45 u46 u47 u48 u49 u50 u51 u52 u53 u54 u55 u56 u57 u58 u59 u60 u61 u62 u63 u64 u65 u66 u67 u68 u69 u70 u71 u72 u73 u74 u75 u76 u77 u78 u79 u80 u81 u82 u83 u84 u85 u86 u87 u88 u89 u90 u91 u92 u93 u94 u95 u96 u97 u98 u99 u100 u101 u102 u103 u104 u105 u106 u107 u108 u109 u110 u111 u112 u113 u114 u115 u116 u117 u118 u119 u120 u121 u122 u123 u124 u125 u126 u127 u128 u129 u130 u131 u132 u133 u134 u135 u136 u137 u138 u139 u140 u141 u142 u143 u144 u145 u146 u147 u148 u149 u150 u151 u152 u153 u154 u155 u156 u157 u158 u159 u160 u161 u162 u163 u164 u165 u166 u167 u168 u169 u170 u171 u172 u173 u174 u175 u176 u177 u178 u179 u180 u181 u182 u183 u184 u185 u186 u187 u188 u189 u190 u191 u192 u193 u194 u195 u196 u197 u198 u199 u200 u201 u202 u203 u204 u205 u206 u207 u208 u209 u210 u211 u212 u213 u214 u215 u216 u217 u218 u219 u220 u221 u222 u223 u224 u225 u226 u227 u228 u229 u230 u231 u232 u233 u234 u235 u236 u237 u238 u239 u240 u241 u242 u243 u244 u245 u246 u247 u248 u249 u250 u251 u252 u253 u254 u255 u256 u257 u258 u259 u260 u261 u262 u263 u264 u265 u266 u267 u268 u269 u270 u271 u272 u273 u274 u275 u276 u277 u278 u279 u280 u281 u282 u283 u284 u285 u286 u287 u288 u289 u290 u291 u292 u293 u294 u295 u296 u297 u298 u299 u300 u301 u302 u303 u304 : Value) (Q : Exit → Act → World → Prop) (hQ : Q = bodyPost Yba.prog Yba.f3 fun e w' => e = .returned (.bool true) ∧ Below w0.heap.size w0 w')
    (K : Act → World → Prop) (hK : ∀ a w, (tl 26 (Yba.f3.body.getD .skip)).wp Yba.prog Q a w → K a w) (K1 : Act → World → Prop) (hK1 : ∀ a w, (tl 1 (hd (tl 25 (Yba.f3.body.getD .skip)))).wp Yba.prog (Exit.then K Q) a w → K1 a w) :
    (hd (hd (tl 25 (Yba.f3.body.getD .skip)))).wp Yba.prog (Exit.then K1 (Exit.then K Q)) { tmps := List.toArray (vin :: .pointer (some ⟨ib, 0, none⟩) :: .bool false :: .int .i64 i.H :: .int .i64 i.L :: .int .i64 i.A :: .string i.tR :: .pointer (some ⟨kb, 0, none⟩) :: s8 :: s9 :: .pointer (some ⟨kk, 0, none⟩) :: s11 :: s12 :: .pointer (some ⟨tb, 0, none⟩) :: .pointer (some ⟨ub, 0, none⟩) :: .map (some mb) :: s16 :: .pointer (some ⟨sb, 0, none⟩) :: .bool i.want :: u19 :: .bool i.want :: u21 :: u22 :: u23 :: u24 :: u25 :: u26 :: u27 :: u28 :: u29 :: u30 :: u31 :: u32 :: u33 :: u34 :: u35 :: u36 :: u37 :: u38 :: u39 :: u40 :: u41 :: u42 :: u43 :: u44 :: u45 :: u46 :: u47 :: u48 :: u49 :: u50 :: u51 :: u52 :: u53 :: u54 :: u55 :: u56 :: u57 :: u58 :: u59 :: u60 :: u61 :: u62 :: u63 :: u64 :: u65 :: u66 :: u67 :: u68 :: u69 :: u70 :: u71 :: u72 :: u73 :: u74 :: u75 :: u76 :: u77 :: u78 :: u79 :: u80 :: u81 :: u82 :: u83 :: u84 :: u85 :: u86 :: u87 :: u88 :: u89 :: u90 :: u91 :: u92 :: u93 :: u94 :: u95 :: u96 :: u97 :: u98 :: u99 :: u100 :: u101 :: u102 :: u103 :: u104 :: u105 :: u106 :: u107 :: u108 :: u109 :: u110 :: u111 :: u112 :: u113 :: u114 :: u115 :: u116 :: u117 :: u118 :: u119 :: u120 :: u121 :: u122 :: u123 :: u124 :: u125 :: u126 :: u127 :: u128 :: u129 :: u130 :: u131 :: u132 :: u133 :: u134 :: u135 :: u136 :: u137 :: u138 :: u139 :: u140 :: u141 :: u142 :: u143 :: u144 :: u145 :: u146 :: u147 :: u148 :: u149 :: u150 :: u151 :: u152 :: u153 :: u154 :: u155 :: u156 :: u157 :: u158 :: u159 :: u160 :: u161 :: u162 :: u163 :: u164 :: u165 :: u166 :: u167 :: u168 :: u169 :: u170 :: u171 :: u172 :: u173 :: u174 :: u175 :: u176 :: u177 :: u178 :: u179 :: u180 :: u181 :: u182 :: u183 :: u184 :: u185 :: u186 :: u187 :: u188 :: u189 :: u190 :: u191 :: u192 :: u193 :: u194 :: u195 :: u196 :: u197 :: u198 :: u199 :: u200 :: u201 :: u202 :: u203 :: u204 :: u205 :: u206 :: u207 :: u208 :: u209 :: u210 :: u211 :: u212 :: u213 :: u214 :: u215 :: u216 :: u217 :: u218 :: u219 :: u220 :: u221 :: u222 :: u223 :: u224 :: u225 :: u226 :: u227 :: u228 :: u229 :: u230 :: u231 :: u232 :: u233 :: u234 :: u235 :: u236 :: u237 :: u238 :: u239 :: u240 :: u241 :: u242 :: u243 :: u244 :: u245 :: u246 :: u247 :: u248 :: u249 :: u250 :: u251 :: u252 :: u253 :: u254 :: u255 :: u256 :: u257 :: u258 :: u259 :: u260 :: u261 :: u262 :: u263 :: u264 :: u265 :: u266 :: u267 :: u268 :: u269 :: u270 :: u271 :: u272 :: u273 :: u274 :: u275 :: u276 :: u277 :: u278 :: u279 :: u280 :: u281 :: u282 :: u283 :: u284 :: u285 :: u286 :: u287 :: u288 :: u289 :: u290 :: u291 :: u292 :: u293 :: u294 :: u295 :: u296 :: u297 :: u298 :: u299 :: u300 :: u301 :: u302 :: u303 :: u304 :: []), defers := [] } W := by
  obtain ⟨rb, v, g, rfl, hr, hn1, hn2, hv, hg⟩ := h8
  obtain ⟨rb', v', g', rfl, hr', hn1', hn2', hv', hg'⟩ := h9
  have g1 : W.cell? ⟨ib, 5, none⟩ = some (.bool i.b5) := cell_at B.out.box rfl
  have g2 : W.cell? ⟨sb, 5, none⟩ = some (.int .i64 i.L) := cell_at hsb rfl
  have g3 : W.cell? ⟨sb, 0, none⟩ = some (.map (some mb)) := cell_at hsb rfl
  have HSR : Hid (Calls Yba.prog 9 #[.pointer (some ⟨rb, 0, none⟩), .pointer (some ⟨rb', 0, none⟩)] W fun e w' => e = .returned (.bool true) ∧ ∃ q, w' = W.drewN q) :=
    samerec_any rb rb' i.tR v v' g g' i.q13 i.xs9 i.xs10 W hr hr' hv hv' hg hg' ok.out.m9 ok.out.m10 (hn1.trans hn1'.symm) (hn2.trans hn2'.symm)
  clear hr hr' hv hv' hg hg' hn1 hn2 hn1' hn2' hub
  dsimp only [Yba.f3, Option.getD, tl, hd] at hK hK1 ⊢
  subst hQ
  rcases hE with ⟨hp, eb, rfl, heb, hmb⟩ | ⟨hp, rfl, hmb⟩
  · rw [hp] at g1
    have HL : ∀ n, (Builtin.len_ #[43] 3 #[.map (some mb)]).run Yba.prog (W.drewN n) = .ok (.int .i64 1) (W.drewN n) := fun n => run_len_map (w := W.drewN n) hmb
    have HK := hide hkk
    have HE := hide heb
    clear hkk heb
    obtain ⟨po, hpo, hpp⟩ : ∃ po, s11 = .pointer po ∧ (po = none ∨ ∃ b, po = some ⟨b, 0, none⟩) := by
      rcases h11 with ⟨h7, hb, v', g', e, _⟩ | ⟨h7, e⟩
      · exact ⟨_, e, .inr ⟨_, rfl⟩⟩
      · exact ⟨_, e, .inl rfl⟩
    have N31 := neq31 po hpp
    have N44 := neq44 eb
    subst hpo
    have HH : Hid (∀ w', Grew W w' → Calls Yba.prog 9 #[.pointer po, s12] w' fun e w'' => e = .returned (.bool true) ∧ ∃ q, w'' = w'.drewN q) := by
      intro w' hgw
      rcases h11.ext hgw with ⟨h7, hb, v1, f1, e1, hr1, n1, m1, hv1, hg1⟩ | ⟨h7, e1⟩
      · rcases h12.ext hgw with ⟨_, hb2, v2, f2, rfl, hr2, n2, m2, hv2, hg2⟩ | ⟨h7', _⟩
        · rw [e1]
          exact samerec_any hb hb2 (typS i.a2) v1 v2 f1 f2 i.hq i.hxs i.hys w' hr1 hr2 hv1 hv2 hg1 hg2 (Inp.hxs_ok ok.out).2 (Inp.hys_ok ok.out).2 (n1.trans n2.symm) (m1.trans m2.symm)
        · rw [h7] at h7'; cases h7'
      · rcases h12.ext hgw with ⟨h7', _⟩ | ⟨_, rfl⟩
        · rw [h7] at h7'; cases h7'
        · rw [e1]
          exact (samerec_nil w').mono fun e w'' h => ⟨h.1, 0, by rw [h.2]; rfl⟩
    have HLK : Hid (∀ w', Grew W w' → (Instr.lookup 43 (.map (some mb)) (.agg (KC i.tS i.kS)) false).run Yba.prog w' = .ok (.pointer (some ⟨eb, 0, none⟩)) w') := by
      intro w' hgw
      have := run_look_one (hgw.blk hmb) i.tS i.kS i.tS_size (u8_wf (Inp.kS_ok ok.out)) i.tS_size (u8_wf (Inp.kS_ok ok.out)) false
      rw [sameKey_self] at this
      exact this
    clear h11 h12
    go_wp2_with (first | (go_at_call 9; refine HSR.out.mono ?_; rintro e w' ⟨rfl, q, rfl⟩))
    obtain ⟨W1, hW1⟩ : ∃ W1, W1 = W.drewN q := ⟨_, rfl⟩
    have GW : Hid (Grew W W1) := by rw [hW1]; exact (Grew.refl W).drewN q
    have g3' : W1.cell? ⟨sb, 0, none⟩ = some (.map (some mb)) := cell_at (GW.out.blk hsb) rfl
    have HLK1 : ∀ n, (Instr.lookup 43 (.map (some mb)) (.agg (KC i.tS i.kS)) false).run Yba.prog (W1.drewN n) = .ok (.pointer (some ⟨eb, 0, none⟩)) (W1.drewN n) := fun n => HLK.out _ (GW.out.drewN n)
    rw [← hW1]
    clear hW1 g1 g2 g3 HL
    refine wp_region_quiet_lit (by kernel_rfl) (by kernel_rfl) ?_
    iterate 4 (go_big_quiet_step (fail))
    go_big_quiet_want
    refine quiet_load_row 37 (.tmp 10) rfl kk rfl (KC i.tS i.kS).toList _ (fun w' ⟨n, hn⟩ => by rw [hn]; exact range_block (w := W1.drewN n) (GW.out.blk HK.out)) Yba.underlying37 rfl info37 ?_
    simp only [Act.put, List.setIfInBounds_toArray, List.set_cons_succ, List.set_cons_zero]
    go_big_quiet_on
    repeat (go_big_quiet_step (fail))
    refine wpQuiet_nil ?_
    intro _ hw'
    obtain ⟨nq, hw''⟩ := hw'
    subst hw''
    rename Nat => n1
    go_wp2_with fail
    obtain ⟨W2, hW2⟩ : ∃ W2, W2 = W1.drewN n1 := ⟨_, rfl⟩
    have GW2 : Hid (Grew W W2) := by rw [hW2]; exact GW.out.drewN n1
    rw [← hW2]
    have HS : Hid (∀ w', Grew W w' → (w'.cell? ⟨eb, 34, none⟩ = some (.pointer po) ∧ w'.cell? ⟨eb, 35, none⟩ = some (.int .u64 (i.H % 1000000000)) ∧ w'.cell? ⟨eb, 36, none⟩ = some (.int .i64 (i.H / 1000000000)) ∧ w'.cell? ⟨eb, 37, none⟩ = some (.pointer none) ∧ w'.cell? ⟨eb, 38, none⟩ = some (.bool i.b15) ∧ w'.cell? ⟨ib, 15, none⟩ = some (.bool i.b15) ∧ w'.cell? ⟨tb, 0, none⟩ = some (.int .u64 (i.H % 1000000000)) ∧ w'.cell? ⟨tb, 1, none⟩ = some (.int .i64 (i.H / 1000000000)) ∧ w'.cell? ⟨tb, 2, none⟩ = some (.pointer none) ∧ Grew W w')) := by
      intro w' hg
      have h1 := hg.blk HE.out
      have h2 := hg.blk B.out.box
      have h3 := hg.blk htb
      exact ⟨cell_at h1 rfl, cell_at h1 rfl, cell_at h1 rfl, cell_at h1 rfl, cell_at h1 rfl, cell_at h2 rfl, cell_at h3 rfl, cell_at h3 rfl, cell_at h3 rfl, hg⟩
    have HG : Hid (∀ w', (w'.cell? ⟨eb, 34, none⟩ = some (.pointer po) ∧ w'.cell? ⟨eb, 35, none⟩ = some (.int .u64 (i.H % 1000000000)) ∧ w'.cell? ⟨eb, 36, none⟩ = some (.int .i64 (i.H / 1000000000)) ∧ w'.cell? ⟨eb, 37, none⟩ = some (.pointer none) ∧ w'.cell? ⟨eb, 38, none⟩ = some (.bool i.b15) ∧ w'.cell? ⟨ib, 15, none⟩ = some (.bool i.b15) ∧ w'.cell? ⟨tb, 0, none⟩ = some (.int .u64 (i.H % 1000000000)) ∧ w'.cell? ⟨tb, 1, none⟩ = some (.int .i64 (i.H / 1000000000)) ∧ w'.cell? ⟨tb, 2, none⟩ = some (.pointer none) ∧ Grew W w') → Grew W w') := fun w' h => h.2.2.2.2.2.2.2.2.2
    obtain ⟨va, hva⟩ : ∃ va, va = Value.agg (KC i.tS i.kS) := ⟨_, rfl⟩
    have N37 : ∀ w, (binOp .neq 37 va va).run Yba.prog w = .ok (.bool false) w := by
      rw [hva]; exact neq37 i.tS i.kS i.tS_size (u8_wf (Inp.kS_ok ok.out))
    have G37 : ∀ x y w, (eqGuard .neq 37 x y va va).run Yba.prog w = .ok () w := by
      rw [hva]; exact fun x y w => guard37 x y _ _ w
    rw [show (KC i.tS i.kS).toList.toArray = KC i.tS i.kS from rfl, ← hva]
    have HVA := hide hva
    have HTB := hide htb
    clear hva hW2 HLK1 g3' hsb hmb htb
    refine wp_region_held_drew (S := fun w' => w'.cell? ⟨eb, 34, none⟩ = some (.pointer po) ∧ w'.cell? ⟨eb, 35, none⟩ = some (.int .u64 (i.H % 1000000000)) ∧ w'.cell? ⟨eb, 36, none⟩ = some (.int .i64 (i.H / 1000000000)) ∧ w'.cell? ⟨eb, 37, none⟩ = some (.pointer none) ∧ w'.cell? ⟨eb, 38, none⟩ = some (.bool i.b15) ∧ w'.cell? ⟨ib, 15, none⟩ = some (.bool i.b15) ∧ w'.cell? ⟨tb, 0, none⟩ = some (.int .u64 (i.H % 1000000000)) ∧ w'.cell? ⟨tb, 1, none⟩ = some (.int .i64 (i.H / 1000000000)) ∧ w'.cell? ⟨tb, 2, none⟩ = some (.pointer none) ∧ Grew W w') (by kernel_rfl) ?_ (fun hHeld => ?_)
    · exact HS.out _ GW2.out.drew
    refine wpAnyH_take (i := 0) (oi := { dst := some 263, op := Op.move (Operand.tmp 16), type := 44, pos := "zz_law_s5814b.go:145", after := #[], guard := none }) (v := ?_) rfl (by kernel_rfl) (by kernel_rfl) (by kernel_rfl) (fun _ _ _ h => h) (Or.inl ⟨by rfl, ?_⟩) hHeld ?_
    rotate_left
    · intro w hSw
      (try dsimp only at hSw)
      go_simp
      try with_reducible rfl
    try simp only [Act.put, List.setIfInBounds_toArray, List.set_cons_zero, List.set_cons_succ]
    refine wpAnyH_take (i := 1) (oi := { dst := some 264, op := Op.nilCheck (Operand.tmp 263), type := 0, pos := "zz_law_s5814b.go:145", after := #[{ on := 0, ground := Ground.data }], guard := none }) (v := ?_) rfl (by kernel_rfl) (by kernel_rfl) (by kernel_rfl) (fun _ _ _ h => h) (Or.inl ⟨by rfl, ?_⟩) hHeld ?_
    rotate_left
    · intro w hSw
      (try dsimp only at hSw)
      go_simp
      try with_reducible rfl
    try simp only [Act.put, List.setIfInBounds_toArray, List.set_cons_zero, List.set_cons_succ]
    refine wpAnyH_take (i := 2) (oi := { dst := some 265, op := Op.fieldAddr 48 (Operand.tmp 264) 2, type := 0, pos := "zz_law_s5814b.go:145", after := #[{ on := 1, ground := Ground.data }], guard := none }) (v := ?_) rfl (by kernel_rfl) (by kernel_rfl) (by kernel_rfl) (fun _ _ _ h => h) (Or.inl ⟨by rfl, ?_⟩) hHeld ?_
    rotate_left
    · intro w hSw
      (try dsimp only at hSw)
      go_simp
      try with_reducible rfl
    try simp only [Act.put, List.setIfInBounds_toArray, List.set_cons_zero, List.set_cons_succ]
    refine wpAnyH_take (i := 3) (oi := { dst := some 266, op := Op.load 31 (Operand.tmp 265), type := 31, pos := "zz_law_s5814b.go:145", after := #[{ on := 2, ground := Ground.data }], guard := none }) (v := ?_) rfl (by kernel_rfl) (by kernel_rfl) (by kernel_rfl) (fun _ _ _ h => h) (Or.inl ⟨by rfl, ?_⟩) hHeld ?_
    rotate_left
    · intro w hSw
      (try dsimp only at hSw)
      go_simp
      try with_reducible rfl
    try simp only [Act.put, List.setIfInBounds_toArray, List.set_cons_zero, List.set_cons_succ]
    refine wpAnyH_take (i := 4) (oi := { dst := some 267, op := Op.move (Operand.tmp 11), type := 31, pos := "zz_law_s5814b.go:145", after := #[], guard := none }) (v := ?_) rfl (by kernel_rfl) (by kernel_rfl) (by kernel_rfl) (fun _ _ _ h => h) (Or.inl ⟨by rfl, ?_⟩) hHeld ?_
    rotate_left
    · intro w hSw
      (try dsimp only at hSw)
      go_simp
      try with_reducible rfl
    try simp only [Act.put, List.setIfInBounds_toArray, List.set_cons_zero, List.set_cons_succ]
    refine wpAnyH_take (i := 5) (oi := { dst := some 268, op := Op.binOp BinOp.neq 31 (Operand.tmp 266) (Operand.tmp 267) 31, type := 4, pos := "zz_law_s5814b.go:145", after := #[{ on := 3, ground := Ground.data }, { on := 4, ground := Ground.data }], guard := none }) (v := ?_) rfl (by kernel_rfl) (by kernel_rfl) (by kernel_rfl) (fun _ _ _ h => h) (Or.inl ⟨by rfl, ?_⟩) hHeld ?_
    rotate_left
    · intro w hSw
      (try dsimp only at hSw)
      go_simp
      try with_reducible rfl
    try simp only [Act.put, List.setIfInBounds_toArray, List.set_cons_zero, List.set_cons_succ]
    refine wpAnyH_take (i := 6) (oi := { dst := some 269, op := Op.move (Operand.tmp 268), type := 4, pos := "zz_law_s5814b.go:145", after := #[{ on := 5, ground := Ground.data }], guard := none }) (v := ?_) rfl (by kernel_rfl) (by kernel_rfl) (by kernel_rfl) (fun _ _ _ h => h) (Or.inl ⟨by rfl, ?_⟩) hHeld ?_
    rotate_left
    · intro w hSw
      (try dsimp only at hSw)
      go_simp
      try with_reducible rfl
    try simp only [Act.put, List.setIfInBounds_toArray, List.set_cons_zero, List.set_cons_succ]
    refine wpAnyH_take (i := 7) (oi := { dst := some 270, op := Op.move (Operand.tmp 16), type := 44, pos := "zz_law_s5814b.go:145", after := #[{ on := 6, ground := Ground.guard }], guard := some (6, false) }) (v := ?_) rfl (by kernel_rfl) (by kernel_rfl) (by kernel_rfl) (fun _ _ _ h => h) (Or.inl ⟨by rfl, ?_⟩) hHeld ?_
    rotate_left
    · intro w hSw
      (try dsimp only at hSw)
      go_simp
      try with_reducible rfl
    try simp only [Act.put, List.setIfInBounds_toArray, List.set_cons_zero, List.set_cons_succ]
    refine wpAnyH_take (i := 8) (oi := { dst := some 271, op := Op.nilCheck (Operand.tmp 270), type := 0, pos := "zz_law_s5814b.go:145", after := #[{ on := 7, ground := Ground.data }, { on := 6, ground := Ground.guard }], guard := some (6, false) }) (v := ?_) rfl (by kernel_rfl) (by kernel_rfl) (by kernel_rfl) (fun _ _ _ h => h) (Or.inl ⟨by rfl, ?_⟩) hHeld ?_
    rotate_left
    · intro w hSw
      (try dsimp only at hSw)
      go_simp
      try with_reducible rfl
    try simp only [Act.put, List.setIfInBounds_toArray, List.set_cons_zero, List.set_cons_succ]
    refine wpAnyH_take (i := 9) (oi := { dst := some 272, op := Op.fieldAddr 48 (Operand.tmp 271) 4, type := 0, pos := "zz_law_s5814b.go:145", after := #[{ on := 8, ground := Ground.data }, { on := 6, ground := Ground.guard }], guard := some (6, false) }) (v := ?_) rfl (by kernel_rfl) (by kernel_rfl) (by kernel_rfl) (fun _ _ _ h => h) (Or.inl ⟨by rfl, ?_⟩) hHeld ?_
    rotate_left
    · intro w hSw
      (try dsimp only at hSw)
      go_simp
      try with_reducible rfl
    try simp only [Act.put, List.setIfInBounds_toArray, List.set_cons_zero, List.set_cons_succ]
    refine wpAnyH_take (i := 10) (oi := { dst := some 273, op := Op.load 4 (Operand.tmp 272), type := 4, pos := "zz_law_s5814b.go:145", after := #[{ on := 9, ground := Ground.data }, { on := 6, ground := Ground.guard }], guard := some (6, false) }) (v := ?_) rfl (by kernel_rfl) (by kernel_rfl) (by kernel_rfl) (fun _ _ _ h => h) (Or.inl ⟨by rfl, ?_⟩) hHeld ?_
    rotate_left
    · intro w hSw
      (try dsimp only at hSw)
      go_simp
      try with_reducible rfl
    try simp only [Act.put, List.setIfInBounds_toArray, List.set_cons_zero, List.set_cons_succ]
    refine wpAnyH_take (i := 11) (oi := { dst := some 274, op := Op.fieldAddr 25 (Operand.tmp 1) 15, type := 0, pos := "zz_law_s5814b.go:145", after := #[{ on := 6, ground := Ground.guard }], guard := some (6, false) }) (v := ?_) rfl (by kernel_rfl) (by kernel_rfl) (by kernel_rfl) (fun _ _ _ h => h) (Or.inl ⟨by rfl, ?_⟩) hHeld ?_
    rotate_left
    · intro w hSw
      (try dsimp only at hSw)
      go_simp
      try with_reducible rfl
    try simp only [Act.put, List.setIfInBounds_toArray, List.set_cons_zero, List.set_cons_succ]
    refine wpAnyH_take (i := 12) (oi := { dst := some 275, op := Op.load 4 (Operand.tmp 274), type := 4, pos := "zz_law_s5814b.go:145", after := #[{ on := 11, ground := Ground.data }, { on := 6, ground := Ground.guard }], guard := some (6, false) }) (v := ?_) rfl (by kernel_rfl) (by kernel_rfl) (by kernel_rfl) (fun _ _ _ h => h) (Or.inl ⟨by rfl, ?_⟩) hHeld ?_
    rotate_left
    · intro w hSw
      (try dsimp only at hSw)
      go_simp
      try with_reducible rfl
    try simp only [Act.put, List.setIfInBounds_toArray, List.set_cons_zero, List.set_cons_succ]
    refine wpAnyH_take (i := 13) (oi := { dst := some 276, op := Op.binOp BinOp.neq 4 (Operand.tmp 273) (Operand.tmp 275) 4, type := 4, pos := "zz_law_s5814b.go:145", after := #[{ on := 10, ground := Ground.data }, { on := 12, ground := Ground.data }, { on := 6, ground := Ground.guard }], guard := some (6, false) }) (v := ?_) rfl (by kernel_rfl) (by kernel_rfl) (by kernel_rfl) (fun _ _ _ h => h) (Or.inl ⟨by rfl, ?_⟩) hHeld ?_
    rotate_left
    · intro w hSw
      (try dsimp only at hSw)
      go_simp
      try with_reducible rfl
    try simp only [Act.put, List.setIfInBounds_toArray, List.set_cons_zero, List.set_cons_succ]
    refine wpAnyH_take (i := 14) (oi := { dst := some 277, op := Op.pick (Operand.tmp 269) (Operand.const (Value.bool true)) (Operand.tmp 276), type := 4, pos := "zz_law_s5814b.go:145", after := #[{ on := 6, ground := Ground.data }, { on := 13, ground := Ground.data }], guard := none }) (v := ?_) rfl (by kernel_rfl) (by kernel_rfl) (by kernel_rfl) (fun _ _ _ h => h) (Or.inl ⟨by rfl, ?_⟩) hHeld ?_
    rotate_left
    · intro w hSw
      (try dsimp only at hSw)
      go_simp
      try with_reducible rfl
    try simp only [Act.put, List.setIfInBounds_toArray, List.set_cons_zero, List.set_cons_succ]
    refine wpAnyH_take (i := 15) (oi := { dst := some 278, op := Op.move (Operand.tmp 277), type := 4, pos := "zz_law_s5814b.go:145", after := #[{ on := 14, ground := Ground.data }, { on := 6, ground := Ground.chain }], guard := none }) (v := ?_) rfl (by kernel_rfl) (by kernel_rfl) (by kernel_rfl) (fun _ _ _ h => h) (Or.inl ⟨by rfl, ?_⟩) hHeld ?_
    rotate_left
    · intro w hSw
      (try dsimp only at hSw)
      go_simp
      try with_reducible rfl
    try simp only [Act.put, List.setIfInBounds_toArray, List.set_cons_zero, List.set_cons_succ]
    refine wpAnyH_take (i := 16) (oi := { dst := some 279, op := Op.move (Operand.tmp 16), type := 44, pos := "zz_law_s5814b.go:145", after := #[{ on := 15, ground := Ground.guard }], guard := some (15, false) }) (v := ?_) rfl (by kernel_rfl) (by kernel_rfl) (by kernel_rfl) (fun _ _ _ h => h) (Or.inl ⟨by rfl, ?_⟩) hHeld ?_
    rotate_left
    · intro w hSw
      (try dsimp only at hSw)
      go_simp
      try with_reducible rfl
    try simp only [Act.put, List.setIfInBounds_toArray, List.set_cons_zero, List.set_cons_succ]
    refine wpAnyH_take (i := 17) (oi := { dst := some 280, op := Op.nilCheck (Operand.tmp 279), type := 0, pos := "zz_law_s5814b.go:145", after := #[{ on := 16, ground := Ground.data }, { on := 15, ground := Ground.guard }], guard := some (15, false) }) (v := ?_) rfl (by kernel_rfl) (by kernel_rfl) (by kernel_rfl) (fun _ _ _ h => h) (Or.inl ⟨by rfl, ?_⟩) hHeld ?_
    rotate_left
    · intro w hSw
      (try dsimp only at hSw)
      go_simp
      try with_reducible rfl
    try simp only [Act.put, List.setIfInBounds_toArray, List.set_cons_zero, List.set_cons_succ]
    refine wpAnyH_take (i := 18) (oi := { dst := some 281, op := Op.fieldAddr 48 (Operand.tmp 280) 3, type := 0, pos := "zz_law_s5814b.go:145", after := #[{ on := 17, ground := Ground.data }, { on := 15, ground := Ground.guard }], guard := some (15, false) }) (v := ?_) rfl (by kernel_rfl) (by kernel_rfl) (by kernel_rfl) (fun _ _ _ h => h) (Or.inl ⟨by rfl, ?_⟩) hHeld ?_
    rotate_left
    · intro w hSw
      (try dsimp only at hSw)
      go_simp
      try with_reducible rfl
    try simp only [Act.put, List.setIfInBounds_toArray, List.set_cons_zero, List.set_cons_succ]
    refine wpAnyH_take (i := 19) (oi := { dst := some 282, op := Op.load 40 (Operand.tmp 281), type := 40, pos := "zz_law_s5814b.go:145", after := #[{ on := 18, ground := Ground.data }, { on := 15, ground := Ground.guard }], guard := some (15, false) }) (v := ?_) rfl (by kernel_rfl) (by kernel_rfl) (by kernel_rfl) (fun _ _ _ h => h) (Or.inl ⟨by rfl, ?_⟩) hHeld ?_
    rotate_left
    · intro w hSw
      (try dsimp only at hSw)
      go_simp
      try with_reducible rfl
    try simp only [Act.put, List.setIfInBounds_toArray, List.set_cons_zero, List.set_cons_succ]
    refine wpAnyH_take (i := 20) (oi := { dst := some 283, op := Op.load 40 (Operand.tmp 13), type := 40, pos := "zz_law_s5814b.go:145", after := #[{ on := 15, ground := Ground.guard }], guard := some (15, false) }) (v := ?_) rfl (by kernel_rfl) (by kernel_rfl) (by kernel_rfl) (fun _ _ _ h => h) (Or.inl ⟨by rfl, ?_⟩) hHeld ?_
    rotate_left
    · intro w hSw
      (try dsimp only at hSw)
      go_simp
      try with_reducible rfl
    try simp only [Act.put, List.setIfInBounds_toArray, List.set_cons_zero, List.set_cons_succ]
    refine wpAnyH_ready (rs := [21]) (by kernel_rfl) (by simp) ?_
    refine AllReadyH.cons (o := { dst := some 284, op := Op.call { callee := Callee.value (Operand.func 10), args := #[Operand.tmp 282, Operand.tmp 283], argTypes := #[40, 40] }, type := 4, pos := "zz_law_s5814b.go:145", after := #[{ on := 19, ground := Ground.data }, { on := 20, ground := Ground.data }, { on := 15, ground := Ground.chain }, { on := 15, ground := Ground.guard }], guard := some (15, false) }) rfl (fun K hK => ?_) AllReadyH.nil
    go_simp
    refine (equal_self i.H _).mono ?_
    rintro e w' ⟨rfl, C1, C2, rfl⟩
    go_wp2_with fail
    refine hK.out _ _ ?_ (fun hHeld => ?_)
    · exact HS.out _ (((HG.out _ hHeld).alloc _).alloc _)
    clear hK K
    try simp only [Act.put, List.setIfInBounds_toArray, List.set_cons_zero, List.set_cons_succ]
    refine wpAnyH_take (i := 22) (oi := { dst := some 285, op := Op.unOp UnOp.not 4 (Operand.tmp 284), type := 4, pos := "zz_law_s5814b.go:145", after := #[{ on := 21, ground := Ground.data }, { on := 15, ground := Ground.guard }], guard := some (15, false) }) (v := ?_) rfl (by kernel_rfl) (by kernel_rfl) (by kernel_rfl) (fun _ _ _ h => h) (Or.inl ⟨by rfl, ?_⟩) hHeld ?_
    rotate_left
    · intro w hSw
      (try dsimp only at hSw)
      go_simp
      try with_reducible rfl
    try simp only [Act.put, List.setIfInBounds_toArray, List.set_cons_zero, List.set_cons_succ]
    refine wpAnyH_take (i := 23) (oi := { dst := some 286, op := Op.pick (Operand.tmp 278) (Operand.const (Value.bool true)) (Operand.tmp 285), type := 4, pos := "zz_law_s5814b.go:145", after := #[{ on := 15, ground := Ground.data }, { on := 22, ground := Ground.data }], guard := none }) (v := ?_) rfl (by kernel_rfl) (by kernel_rfl) (by kernel_rfl) (fun _ _ _ h => h) (Or.inl ⟨by rfl, ?_⟩) hHeld ?_
    rotate_left
    · intro w hSw
      (try dsimp only at hSw)
      go_simp
      try with_reducible rfl
    try simp only [Act.put, List.setIfInBounds_toArray, List.set_cons_zero, List.set_cons_succ]
    refine wpAnyH_take (i := 24) (oi := { dst := some 287, op := Op.move (Operand.tmp 286), type := 4, pos := "zz_law_s5814b.go:145", after := #[{ on := 23, ground := Ground.data }, { on := 21, ground := Ground.chain }], guard := none }) (v := ?_) rfl (by kernel_rfl) (by kernel_rfl) (by kernel_rfl) (fun _ _ _ h => h) (Or.inl ⟨by rfl, ?_⟩) hHeld ?_
    rotate_left
    · intro w hSw
      (try dsimp only at hSw)
      go_simp
      try with_reducible rfl
    try simp only [Act.put, List.setIfInBounds_toArray, List.set_cons_zero, List.set_cons_succ]
    refine wpAnyH_take (i := 25) (oi := { dst := some 288, op := Op.move (Operand.tmp 16), type := 44, pos := "zz_law_s5814b.go:145", after := #[{ on := 24, ground := Ground.guard }], guard := some (24, false) }) (v := ?_) rfl (by kernel_rfl) (by kernel_rfl) (by kernel_rfl) (fun _ _ _ h => h) (Or.inl ⟨by rfl, ?_⟩) hHeld ?_
    rotate_left
    · intro w hSw
      (try dsimp only at hSw)
      go_simp
      try with_reducible rfl
    try simp only [Act.put, List.setIfInBounds_toArray, List.set_cons_zero, List.set_cons_succ]
    refine wpAnyH_take (i := 26) (oi := { dst := some 289, op := Op.nilCheck (Operand.tmp 288), type := 0, pos := "zz_law_s5814b.go:145", after := #[{ on := 25, ground := Ground.data }, { on := 24, ground := Ground.guard }], guard := some (24, false) }) (v := ?_) rfl (by kernel_rfl) (by kernel_rfl) (by kernel_rfl) (fun _ _ _ h => h) (Or.inl ⟨by rfl, ?_⟩) hHeld ?_
    rotate_left
    · intro w hSw
      (try dsimp only at hSw)
      go_simp
      try with_reducible rfl
    try simp only [Act.put, List.setIfInBounds_toArray, List.set_cons_zero, List.set_cons_succ]
    refine wpAnyH_take (i := 27) (oi := { dst := some 290, op := Op.fieldAddr 48 (Operand.tmp 289) 0, type := 0, pos := "zz_law_s5814b.go:145", after := #[{ on := 26, ground := Ground.data }, { on := 24, ground := Ground.guard }], guard := some (24, false) }) (v := ?_) rfl (by kernel_rfl) (by kernel_rfl) (by kernel_rfl) (fun _ _ _ h => h) (Or.inl ⟨by rfl, ?_⟩) hHeld ?_
    rotate_left
    · intro w hSw
      (try dsimp only at hSw)
      go_simp
      try with_reducible rfl
    try simp only [Act.put, List.setIfInBounds_toArray, List.set_cons_zero, List.set_cons_succ]
    refine wpAnyH_take (i := 28) (oi := { dst := some 291, op := Op.load 37 (Operand.tmp 290), type := 37, pos := "zz_law_s5814b.go:145", after := #[{ on := 27, ground := Ground.data }, { on := 24, ground := Ground.guard }], guard := some (24, false) }) (v := va) rfl (by kernel_rfl) (by kernel_rfl) (by kernel_rfl) (fun _ _ _ h => h) (by rw [HVA.out]; exact yieldsIf_load_mid (by rfl) _ _ rfl eb 0 rfl (KC i.tS i.kS).toList _ (fun w' hw' => range_pre ((HG.out _ hw').blk HE.out)) Yba.underlying37 rfl info37) hHeld ?_
    try simp only [Act.put, List.setIfInBounds_toArray, List.set_cons_zero, List.set_cons_succ]
    refine wpAnyH_take (i := 29) (oi := { dst := some 292, op := Op.load 37 (Operand.tmp 10), type := 37, pos := "zz_law_s5814b.go:145", after := #[{ on := 24, ground := Ground.guard }], guard := some (24, false) }) (v := va) rfl (by kernel_rfl) (by kernel_rfl) (by kernel_rfl) (fun _ _ _ h => h) (by rw [HVA.out]; exact yieldsIf_load_mid (by rfl) _ _ rfl kk 0 rfl (KC i.tS i.kS).toList _ (fun w' hw' => range_block ((HG.out _ hw').blk HK.out)) Yba.underlying37 rfl info37) hHeld ?_
    try simp only [Act.put, List.setIfInBounds_toArray, List.set_cons_zero, List.set_cons_succ]
    refine wpAnyH_take (i := 30) (oi := { dst := some 293, op := Op.binOp BinOp.neq 37 (Operand.tmp 291) (Operand.tmp 292) 37, type := 4, pos := "zz_law_s5814b.go:145", after := #[{ on := 28, ground := Ground.data }, { on := 29, ground := Ground.data }, { on := 24, ground := Ground.guard }], guard := some (24, false) }) (v := ?_) rfl (by kernel_rfl) (by kernel_rfl) (by kernel_rfl) (fun _ _ _ h => h) (Or.inl ⟨by rfl, ?_⟩) hHeld ?_
    rotate_left
    · intro w hSw
      (try dsimp only at hSw)
      go_simp
      try with_reducible rfl
    try simp only [Act.put, List.setIfInBounds_toArray, List.set_cons_zero, List.set_cons_succ]
    refine wpAnyH_take (i := 31) (oi := { dst := some 294, op := Op.pick (Operand.tmp 287) (Operand.const (Value.bool true)) (Operand.tmp 293), type := 4, pos := "zz_law_s5814b.go:145", after := #[{ on := 24, ground := Ground.data }, { on := 30, ground := Ground.data }], guard := none }) (v := ?_) rfl (by kernel_rfl) (by kernel_rfl) (by kernel_rfl) (fun _ _ _ h => h) (Or.inl ⟨by rfl, ?_⟩) hHeld ?_
    rotate_left
    · intro w hSw
      (try dsimp only at hSw)
      go_simp
      try with_reducible rfl
    try simp only [Act.put, List.setIfInBounds_toArray, List.set_cons_zero, List.set_cons_succ]
    refine wpAnyH_done (by kernel_rfl) ?_ _
    have GW3 := HG.out _ hHeld
    go_wp2_with (first | (go_at_call 9; refine (HH.out _ GW3).mono ?_; rintro e w' ⟨rfl, q2, rfl⟩))
    go_ret
    exact ⟨rfl, (((B.out.grew.trans GW2.out).alloc _).alloc _).drewN _⟩
  · rw [hp] at g1
    have HL : ∀ n, (Builtin.len_ #[43] 3 #[.map (some mb)]).run Yba.prog (W.drewN n) = .ok (.int .i64 0) (W.drewN n) := fun n => run_len_map (w := W.drewN n) hmb
    go_wp2_with (first | (go_at_call 9; refine HSR.out.mono ?_; rintro e w' ⟨rfl, q, rfl⟩))
    go_ret
    exact ⟨rfl, B.out.grew.drewN q⟩

set_option maxRecDepth 100000 in
theorem stage24 (i : Inp) (ok : Hid i.Ok) (w0 W : World) (ib kb : Nat) (B : Hid (Base i w0 ib kb W)) (s8 : Value) (h8 : Made W s8 i.tR i.q13 i.v9 i.v10 i.xs9 i.xs10) (s9 : Value) (h9 : Made W s9 i.tR i.q13 i.v9 i.v10 i.xs9 i.xs10) (kk : Nat) (hkk : W.heap[kk]? = some (.cells (KC i.tS i.kS) 37)) (s11 : Value) (h11 : Hand i W s11) (s12 : Value) (h12 : Hand i W s12) (tb ub mb : Nat) (s16 : Value) (htb : W.heap[tb]? = some (.cells #[.int .u64 (i.H % 1000000000), .int .i64 (i.H / 1000000000), .pointer none] 40)) (hub : W.heap[ub]? = some (.cells #[.int .u64 (i.A % 1000000000), .int .i64 (i.A / 1000000000), .pointer none] 40)) (hE : Ents i W mb s11 s16) (sb : Nat) (hsb : W.heap[sb]? = some (.cells (SC mb i.L) 55)) (s20 : Value) (h20 : s20 = .bool i.want) (vin u19 u21 u22 u23 u24 u25 u26 u27 u28 u29 u30 u31 u32 u33 u34 u35 u36 u37 u38 u39 u40 u41 u42 u43 u44 u45 u46 u47 u48 u49 u50 u51 u52 u53 u54 u55 u56 u57 u58 u59 u60 u61 u62 u63 u64 u65 u66 u67 u68 u69 u70 u71 u72 u73 u74 u75 u76 u77 u78 u79 u80 u81 u82 u83 u84 u85 u86 u87 u88 u89 u90 u91 u92 u93 u94 u95 u96 u97 u98 u99 u100 u101 u102 u103 u104 u105 u106 u107 u108 u109 u110 u111 u112 u113 u114 u115 u116 u117 u118 u119 u120 u121 u122 u123 u124 u125 u126 u127 u128 u129 u130 u131 u132 u133 u134 u135 u136 u137 u138 u139 u140 u141 u142 u143 u144 u145 u146 u147 u148 u149 u150 u151 u152 u153 u154 u155 u156 u157 u158 u159 u160 u161 u162 u163 u164 u165 u166 u167 u168 u169 u170 u171 u172 u173 u174 u175 u176 u177 u178 u179 u180 u181 u182 u183 u184 u185 u186 u187 u188 u189 u190 u191 u192 u193 u194 u195 u196 u197 u198 u199 u200 u201 u202 u203 u204 u205 u206 u207 u208 u209 u210 u211 u212 u213 u214 u215 u216 u217 u218 u219 u220 u221 u222 u223 u224 u225 u226 u227 u228 u229 u230 u231 u232 u233 u234 u235 u236 u237 u238 u239 u240 u241 u242 u243 u244 u245 u246 u247 u248 u249 u250 u251 u252 u253 u254 u255 u256 u257 u258 u259 u260 u261 u262 u263 u264 u265 u266 u267 u268 u269 u270 u271 u272 u273 u274 u275 u276 u277 u278 u279 u280 u281 u282 u283 u284 u285 u286 u287 u288 u289 u290 u291 u292 u293 u294 u295 u296 u297 u298 u299 u300 u301 u302 u303 u304 : Value) (Q : Exit → Act → World → Prop) (hQ : Q = bodyPost Yba.prog Yba.f3 fun e w' => e = .returned (.bool true) ∧ Below w0.heap.size w0 w')
    (K : Act → World → Prop) (hK : ∀ a w, (tl 26 (Yba.f3.body.getD .skip)).wp Yba.prog Q a w → K a w) (K1 : Act → World → Prop) (hK1 : ∀ a w, (tl 1 (hd (tl 25 (Yba.f3.body.getD .skip)))).wp Yba.prog (Exit.then K Q) a w → K1 a w) :
    (hd (hd (tl 25 (Yba.f3.body.getD .skip)))).wp Yba.prog (Exit.then K1 (Exit.then K Q)) { tmps := List.toArray (vin :: .pointer (some ⟨ib, 0, none⟩) :: .bool false :: .int .i64 i.H :: .int .i64 i.L :: .int .i64 i.A :: .string i.tR :: .pointer (some ⟨kb, 0, none⟩) :: s8 :: s9 :: .pointer (some ⟨kk, 0, none⟩) :: s11 :: s12 :: .pointer (some ⟨tb, 0, none⟩) :: .pointer (some ⟨ub, 0, none⟩) :: .map (some mb) :: s16 :: .pointer (some ⟨sb, 0, none⟩) :: .bool i.want :: u19 :: s20 :: u21 :: u22 :: u23 :: u24 :: u25 :: u26 :: u27 :: u28 :: u29 :: u30 :: u31 :: u32 :: u33 :: u34 :: u35 :: u36 :: u37 :: u38 :: u39 :: u40 :: u41 :: u42 :: u43 :: u44 :: u45 :: u46 :: u47 :: u48 :: u49 :: u50 :: u51 :: u52 :: u53 :: u54 :: u55 :: u56 :: u57 :: u58 :: u59 :: u60 :: u61 :: u62 :: u63 :: u64 :: u65 :: u66 :: u67 :: u68 :: u69 :: u70 :: u71 :: u72 :: u73 :: u74 :: u75 :: u76 :: u77 :: u78 :: u79 :: u80 :: u81 :: u82 :: u83 :: u84 :: u85 :: u86 :: u87 :: u88 :: u89 :: u90 :: u91 :: u92 :: u93 :: u94 :: u95 :: u96 :: u97 :: u98 :: u99 :: u100 :: u101 :: u102 :: u103 :: u104 :: u105 :: u106 :: u107 :: u108 :: u109 :: u110 :: u111 :: u112 :: u113 :: u114 :: u115 :: u116 :: u117 :: u118 :: u119 :: u120 :: u121 :: u122 :: u123 :: u124 :: u125 :: u126 :: u127 :: u128 :: u129 :: u130 :: u131 :: u132 :: u133 :: u134 :: u135 :: u136 :: u137 :: u138 :: u139 :: u140 :: u141 :: u142 :: u143 :: u144 :: u145 :: u146 :: u147 :: u148 :: u149 :: u150 :: u151 :: u152 :: u153 :: u154 :: u155 :: u156 :: u157 :: u158 :: u159 :: u160 :: u161 :: u162 :: u163 :: u164 :: u165 :: u166 :: u167 :: u168 :: u169 :: u170 :: u171 :: u172 :: u173 :: u174 :: u175 :: u176 :: u177 :: u178 :: u179 :: u180 :: u181 :: u182 :: u183 :: u184 :: u185 :: u186 :: u187 :: u188 :: u189 :: u190 :: u191 :: u192 :: u193 :: u194 :: u195 :: u196 :: u197 :: u198 :: u199 :: u200 :: u201 :: u202 :: u203 :: u204 :: u205 :: u206 :: u207 :: u208 :: u209 :: u210 :: u211 :: u212 :: u213 :: u214 :: u215 :: u216 :: u217 :: u218 :: u219 :: u220 :: u221 :: u222 :: u223 :: u224 :: u225 :: u226 :: u227 :: u228 :: u229 :: u230 :: u231 :: u232 :: u233 :: u234 :: u235 :: u236 :: u237 :: u238 :: u239 :: u240 :: u241 :: u242 :: u243 :: u244 :: u245 :: u246 :: u247 :: u248 :: u249 :: u250 :: u251 :: u252 :: u253 :: u254 :: u255 :: u256 :: u257 :: u258 :: u259 :: u260 :: u261 :: u262 :: u263 :: u264 :: u265 :: u266 :: u267 :: u268 :: u269 :: u270 :: u271 :: u272 :: u273 :: u274 :: u275 :: u276 :: u277 :: u278 :: u279 :: u280 :: u281 :: u282 :: u283 :: u284 :: u285 :: u286 :: u287 :: u288 :: u289 :: u290 :: u291 :: u292 :: u293 :: u294 :: u295 :: u296 :: u297 :: u298 :: u299 :: u300 :: u301 :: u302 :: u303 :: u304 :: []), defers := [] } W := by
  subst h20
  apply stage25 (ok := ok) (B := B) (h8 := h8) (h9 := h9) (hkk := hkk) (h11 := h11) (h12 := h12) (htb := htb) (hub := hub) (hE := hE) (hsb := hsb) (hQ := hQ) (hK := hK) (hK1 := hK1)
end Go.Proofs.Ybulkdpjq
