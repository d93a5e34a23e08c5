/-
  The records and the place of the entry.
-/
import Derived.Test.YbulkdpjqRows
import Derived.WalkKit
import Derived.ProofKit
import Derived.OpenShut
import Derived.WalkLawsBesides
import Derived.BigQuiet
import Derived.Laws.BitsAllLaws
import Derived.Laws.StructEq
import Derived.Outline
import Derived.Test.YbulkdpjqHeap
import Derived.Test.YbulkdpjqAids
import Derived.Test.YbulkdpjqState
import Derived.Test.YbulkdpjqFew
import Derived.Test.YbulkdpjqHanded
import Derived.Test.YbulkdpjqRec
import Derived.Deep.RegionWith
import Derived.Deep.RegionHeld3
import Derived.Deep.DeepCutAuto
import Derived.Deep.DrawnRows
import Derived.Test.YbulkdpjqStore
namespace Go.Proofs.Ybulkdpjq
open Go.ChangeShapes Go.WideShapes Go.ChangeAt Go.RowKit
open Go.ChangeMaps (setBlock)
set_option linter.unusedVariables false

set_option maxRecDepth 100000 in
set_option maxHeartbeats 1600000 in
theorem stage13 (i : Inp) (ok : Hid i.Ok) (w0 W : World) (ib kb : Nat) (B : Hid (Base i w0 ib kb W)) (s8 : Value) (h8 : Made W s8 i.tR i.q13 i.v9 i.v10 i.xs9 i.xs10) (s9 : Value) (h9 : Made W s9 i.tR i.q13 i.v9 i.v10 i.xs9 i.xs10) (kk : Nat) (hkk : W.heap[kk]? = some (.cells (KC i.tS i.kS) 37)) (s11 : Value) (h11 : Hand i W s11) (vin u12 u13 u14 u15 u16 u17 u18 u19 u20 u21 u22 u23 u24 u25 u26 u27 u28 u29 u30 u31 u32 u33 u34 u35 u36 u37 u38 u39 u40 u41 u42 u43 u44 u45 u46 u47 u48 u49 u50 u51 u52 u53 u54 u55 u56 u57 u58 u59 u60 u61 u62 u63 u64 u65 u66 u67 u68 u69 u70 u71 u72 u73 u74 u75 u76 u77 u78 u79 u80 u81 u82 u83 u84 u85 u86 u87 u88 u89 u90 u91 u92 u93 u94 u95 u96 u97 u98 u99 u100 u101 u102 u103 u104 u105 u106 u107 u108 u109 u110 u111 u112 u113 u114 u115 u116 u117 u118 u119 u120 u121 u122 u123 u124 u125 u126 u127 u128 u129 u130 u131 u132 u133 u134 u135 u136 u137 u138 u139 u140 u141 u142 u143 u144 u145 u146 u147 u148 u149 u150 u151 u152 u153 u154 u155 u156 u157 u158 u159 u160 u161 u162 u163 u164 u165 u166 u167 u168 u169 u170 u171 u172 u173 u174 u175 u176 u177 u178 u179 u180 u181 u182 u183 u184 u185 u186 u187 u188 u189 u190 u191 u192 u193 u194 u195 u196 u197 u198 u199 u200 u201 u202 u203 u204 u205 u206 u207 u208 u209 u210 u211 u212 u213 u214 u215 u216 u217 u218 u219 u220 u221 u222 u223 u224 u225 u226 u227 u228 u229 u230 u231 u232 u233 u234 u235 u236 u237 u238 u239 u240 u241 u242 u243 u244 u245 u246 u247 u248 u249 u250 u251 u252 u253 u254 u255 u256 u257 u258 u259 u260 u261 u262 u263 u264 u265 u266 u267 u268 u269 u270 u271 u272 u273 u274 u275 u276 u277 u278 u279 u280 u281 u282 u283 u284 u285 u286 u287 u288 u289 u290 u291 u292 u293 u294 u295 u296 u297 u298 u299 u300 u301 u302 u303 u304 : Value) (Q : Exit → Act → World → Prop) (hQ : Q = bodyPost Yba.prog Yba.f3 fun e w' => e = .returned (.bool true) ∧ Below w0.heap.size w0 w')
    (K : Act → World → Prop) (hK : ∀ a w, (tl 14 (Yba.f3.body.getD .skip)).wp Yba.prog Q a w → K a w) :
    (hd (tl 13 (Yba.f3.body.getD .skip))).wp Yba.prog (Exit.then K Q) { tmps := List.toArray (vin :: .pointer (some ⟨ib, 0, none⟩) :: .bool false :: .int .i64 i.H :: .int .i64 i.L :: .int .i64 i.A :: .string i.tR :: .pointer (some ⟨kb, 0, none⟩) :: s8 :: s9 :: .pointer (some ⟨kk, 0, none⟩) :: s11 :: u12 :: u13 :: u14 :: u15 :: u16 :: u17 :: u18 :: u19 :: u20 :: u21 :: u22 :: u23 :: u24 :: u25 :: u26 :: u27 :: u28 :: u29 :: u30 :: u31 :: u32 :: u33 :: u34 :: u35 :: u36 :: u37 :: u38 :: u39 :: u40 :: u41 :: u42 :: u43 :: u44 :: u45 :: u46 :: u47 :: u48 :: u49 :: u50 :: u51 :: u52 :: u53 :: u54 :: u55 :: u56 :: u57 :: u58 :: u59 :: u60 :: u61 :: u62 :: u63 :: u64 :: u65 :: u66 :: u67 :: u68 :: u69 :: u70 :: u71 :: u72 :: u73 :: u74 :: u75 :: u76 :: u77 :: u78 :: u79 :: u80 :: u81 :: u82 :: u83 :: u84 :: u85 :: u86 :: u87 :: u88 :: u89 :: u90 :: u91 :: u92 :: u93 :: u94 :: u95 :: u96 :: u97 :: u98 :: u99 :: u100 :: u101 :: u102 :: u103 :: u104 :: u105 :: u106 :: u107 :: u108 :: u109 :: u110 :: u111 :: u112 :: u113 :: u114 :: u115 :: u116 :: u117 :: u118 :: u119 :: u120 :: u121 :: u122 :: u123 :: u124 :: u125 :: u126 :: u127 :: u128 :: u129 :: u130 :: u131 :: u132 :: u133 :: u134 :: u135 :: u136 :: u137 :: u138 :: u139 :: u140 :: u141 :: u142 :: u143 :: u144 :: u145 :: u146 :: u147 :: u148 :: u149 :: u150 :: u151 :: u152 :: u153 :: u154 :: u155 :: u156 :: u157 :: u158 :: u159 :: u160 :: u161 :: u162 :: u163 :: u164 :: u165 :: u166 :: u167 :: u168 :: u169 :: u170 :: u171 :: u172 :: u173 :: u174 :: u175 :: u176 :: u177 :: u178 :: u179 :: u180 :: u181 :: u182 :: u183 :: u184 :: u185 :: u186 :: u187 :: u188 :: u189 :: u190 :: u191 :: u192 :: u193 :: u194 :: u195 :: u196 :: u197 :: u198 :: u199 :: u200 :: u201 :: u202 :: u203 :: u204 :: u205 :: u206 :: u207 :: u208 :: u209 :: u210 :: u211 :: u212 :: u213 :: u214 :: u215 :: u216 :: u217 :: u218 :: u219 :: u220 :: u221 :: u222 :: u223 :: u224 :: u225 :: u226 :: u227 :: u228 :: u229 :: u230 :: u231 :: u232 :: u233 :: u234 :: u235 :: u236 :: u237 :: u238 :: u239 :: u240 :: u241 :: u242 :: u243 :: u244 :: u245 :: u246 :: u247 :: u248 :: u249 :: u250 :: u251 :: u252 :: u253 :: u254 :: u255 :: u256 :: u257 :: u258 :: u259 :: u260 :: u261 :: u262 :: u263 :: u264 :: u265 :: u266 :: u267 :: u268 :: u269 :: u270 :: u271 :: u272 :: u273 :: u274 :: u275 :: u276 :: u277 :: u278 :: u279 :: u280 :: u281 :: u282 :: u283 :: u284 :: u285 :: u286 :: u287 :: u288 :: u289 :: u290 :: u291 :: u292 :: u293 :: u294 :: u295 :: u296 :: u297 :: u298 :: u299 :: u300 :: u301 :: u302 :: u303 :: u304 :: []), defers := [] } W := by
  replace h8 := hide h8
  replace h9 := hide h9
  replace hkk := hide hkk
  replace h11 := hide h11
  dsimp only [Yba.f3, Option.getD, tl, hd] at hK ⊢
  subst hQ
  rcases h11.out with ⟨h7, hb, v', g', rfl, hr', hm1, hm2, hv', hg'⟩ | ⟨h7, rfl⟩
  · have HS : Hid (∀ w', Grew W w' → (w'.cell? ⟨hb, 0, none⟩ = some (.string (typS i.a2)) ∧ w'.cell? ⟨hb, 1, none⟩ = some v' ∧ w'.cell? ⟨hb, 4, none⟩ = some (.int .u64 i.hq) ∧ w'.cell? ⟨hb, 5, none⟩ = some g' ∧ Grew W w')) := by
      intro w' hg
      have hh := (hg.isRec hr').cells
      exact ⟨hh.1, hh.2.1, hh.2.2.1, hh.2.2.2, hg⟩
    have HV := hide hv'
    have HW := hide hg'
    have HM1 := hide hm1
    have HM2 := hide hm2
    clear hv' hg' hr' hm1 hm2
    go_upto_region 21 with fail
    refine wp_region_held_drew (S := fun w' => w'.cell? ⟨hb, 0, none⟩ = some (.string (typS i.a2)) ∧ w'.cell? ⟨hb, 1, none⟩ = some v' ∧ w'.cell? ⟨hb, 4, none⟩ = some (.int .u64 i.hq) ∧ w'.cell? ⟨hb, 5, none⟩ = some g' ∧ Grew W w') (by kernel_rfl) ?_ (fun hHeld => ?_)
    · exact HS.out _ (Grew.drew (Grew.refl _))
    refine wpAnyH_take (i := 0) (oi := { dst := some 119, op := Op.move (Operand.tmp 11), type := 31, pos := "zz_law_s5814b.go:99", after := #[], guard := none }) (v := ?_) rfl (by kernel_rfl) (by kernel_rfl) (by kernel_rfl) (fun _ _ _ h => h) (Or.inl ⟨by rfl, ?_⟩) hHeld ?_
    rotate_left
    · intro w hSw
      (try dsimp only at hSw)
      go_simp
      try with_reducible rfl
    try simp only [Act.put, List.setIfInBounds_toArray, List.set_cons_zero, List.set_cons_succ]
    refine wpAnyH_take (i := 1) (oi := { dst := some 120, op := Op.nilCheck (Operand.tmp 119), type := 0, pos := "zz_law_s5814b.go:99", after := #[{ on := 0, ground := Ground.data }], guard := none }) (v := ?_) rfl (by kernel_rfl) (by kernel_rfl) (by kernel_rfl) (fun _ _ _ h => h) (Or.inl ⟨by rfl, ?_⟩) hHeld ?_
    rotate_left
    · intro w hSw
      (try dsimp only at hSw)
      go_simp
      try with_reducible rfl
    try simp only [Act.put, List.setIfInBounds_toArray, List.set_cons_zero, List.set_cons_succ]
    refine wpAnyH_take (i := 2) (oi := { dst := some 121, op := Op.fieldAddr 35 (Operand.tmp 120) 0, type := 0, pos := "zz_law_s5814b.go:99", after := #[{ on := 1, ground := Ground.data }], guard := none }) (v := ?_) rfl (by kernel_rfl) (by kernel_rfl) (by kernel_rfl) (fun _ _ _ h => h) (Or.inl ⟨by rfl, ?_⟩) hHeld ?_
    rotate_left
    · intro w hSw
      (try dsimp only at hSw)
      go_simp
      try with_reducible rfl
    try simp only [Act.put, List.setIfInBounds_toArray, List.set_cons_zero, List.set_cons_succ]
    refine wpAnyH_take (i := 3) (oi := { dst := some 122, op := Op.load 27 (Operand.tmp 121), type := 27, pos := "zz_law_s5814b.go:99", after := #[{ on := 2, ground := Ground.data }], guard := none }) (v := ?_) rfl (by kernel_rfl) (by kernel_rfl) (by kernel_rfl) (fun _ _ _ h => h) (Or.inl ⟨by rfl, ?_⟩) hHeld ?_
    rotate_left
    · intro w hSw
      (try dsimp only at hSw)
      go_simp
      try with_reducible rfl
    try simp only [Act.put, List.setIfInBounds_toArray, List.set_cons_zero, List.set_cons_succ]
    refine wpAnyH_take (i := 4) (oi := { dst := some 123, op := Op.move (Operand.tmp 11), type := 31, pos := "zz_law_s5814b.go:99", after := #[], guard := none }) (v := ?_) rfl (by kernel_rfl) (by kernel_rfl) (by kernel_rfl) (fun _ _ _ h => h) (Or.inl ⟨by rfl, ?_⟩) hHeld ?_
    rotate_left
    · intro w hSw
      (try dsimp only at hSw)
      go_simp
      try with_reducible rfl
    try simp only [Act.put, List.setIfInBounds_toArray, List.set_cons_zero, List.set_cons_succ]
    refine wpAnyH_take (i := 5) (oi := { dst := some 124, op := Op.nilCheck (Operand.tmp 123), type := 0, pos := "zz_law_s5814b.go:99", after := #[{ on := 4, ground := Ground.data }], guard := none }) (v := ?_) rfl (by kernel_rfl) (by kernel_rfl) (by kernel_rfl) (fun _ _ _ h => h) (Or.inl ⟨by rfl, ?_⟩) hHeld ?_
    rotate_left
    · intro w hSw
      (try dsimp only at hSw)
      go_simp
      try with_reducible rfl
    try simp only [Act.put, List.setIfInBounds_toArray, List.set_cons_zero, List.set_cons_succ]
    refine wpAnyH_take (i := 6) (oi := { dst := some 125, op := Op.fieldAddr 35 (Operand.tmp 124) 1, type := 0, pos := "zz_law_s5814b.go:99", after := #[{ on := 5, ground := Ground.data }], guard := none }) (v := ?_) rfl (by kernel_rfl) (by kernel_rfl) (by kernel_rfl) (fun _ _ _ h => h) (Or.inl ⟨by rfl, ?_⟩) hHeld ?_
    rotate_left
    · intro w hSw
      (try dsimp only at hSw)
      go_simp
      try with_reducible rfl
    try simp only [Act.put, List.setIfInBounds_toArray, List.set_cons_zero, List.set_cons_succ]
    refine wpAnyH_take (i := 7) (oi := { dst := some 126, op := Op.load 22 (Operand.tmp 125), type := 22, pos := "zz_law_s5814b.go:99", after := #[{ on := 6, ground := Ground.data }], guard := none }) (v := ?_) rfl (by kernel_rfl) (by kernel_rfl) (by kernel_rfl) (fun _ _ _ h => h) (Or.inl ⟨by rfl, ?_⟩) hHeld ?_
    rotate_left
    · intro w hSw
      (try dsimp only at hSw)
      go_simp
      try with_reducible rfl
    try simp only [Act.put, List.setIfInBounds_toArray, List.set_cons_zero, List.set_cons_succ]
    refine wpAnyH_take (i := 9) (oi := { dst := some 128, op := Op.move (Operand.tmp 11), type := 31, pos := "zz_law_s5814b.go:99", after := #[], guard := none }) (v := ?_) rfl (by kernel_rfl) (by kernel_rfl) (by kernel_rfl) (fun _ _ _ h => h) (Or.inl ⟨by rfl, ?_⟩) hHeld ?_
    rotate_left
    · intro w hSw
      (try dsimp only at hSw)
      go_simp
      try with_reducible rfl
    try simp only [Act.put, List.setIfInBounds_toArray, List.set_cons_zero, List.set_cons_succ]
    refine wpAnyH_take (i := 10) (oi := { dst := some 129, op := Op.nilCheck (Operand.tmp 128), type := 0, pos := "zz_law_s5814b.go:99", after := #[{ on := 9, ground := Ground.data }], guard := none }) (v := ?_) rfl (by kernel_rfl) (by kernel_rfl) (by kernel_rfl) (fun _ _ _ h => h) (Or.inl ⟨by rfl, ?_⟩) hHeld ?_
    rotate_left
    · intro w hSw
      (try dsimp only at hSw)
      go_simp
      try with_reducible rfl
    try simp only [Act.put, List.setIfInBounds_toArray, List.set_cons_zero, List.set_cons_succ]
    refine wpAnyH_take (i := 11) (oi := { dst := some 130, op := Op.fieldAddr 35 (Operand.tmp 129) 4, type := 0, pos := "zz_law_s5814b.go:99", after := #[{ on := 10, ground := Ground.data }], guard := none }) (v := ?_) rfl (by kernel_rfl) (by kernel_rfl) (by kernel_rfl) (fun _ _ _ h => h) (Or.inl ⟨by rfl, ?_⟩) hHeld ?_
    rotate_left
    · intro w hSw
      (try dsimp only at hSw)
      go_simp
      try with_reducible rfl
    try simp only [Act.put, List.setIfInBounds_toArray, List.set_cons_zero, List.set_cons_succ]
    refine wpAnyH_take (i := 12) (oi := { dst := some 131, op := Op.load 23 (Operand.tmp 130), type := 23, pos := "zz_law_s5814b.go:99", after := #[{ on := 11, ground := Ground.data }], guard := none }) (v := ?_) rfl (by kernel_rfl) (by kernel_rfl) (by kernel_rfl) (fun _ _ _ h => h) (Or.inl ⟨by rfl, ?_⟩) hHeld ?_
    rotate_left
    · intro w hSw
      (try dsimp only at hSw)
      go_simp
      try with_reducible rfl
    try simp only [Act.put, List.setIfInBounds_toArray, List.set_cons_zero, List.set_cons_succ]
    refine wpAnyH_take (i := 13) (oi := { dst := some 132, op := Op.move (Operand.tmp 11), type := 31, pos := "zz_law_s5814b.go:99", after := #[], guard := none }) (v := ?_) rfl (by kernel_rfl) (by kernel_rfl) (by kernel_rfl) (fun _ _ _ h => h) (Or.inl ⟨by rfl, ?_⟩) hHeld ?_
    rotate_left
    · intro w hSw
      (try dsimp only at hSw)
      go_simp
      try with_reducible rfl
    try simp only [Act.put, List.setIfInBounds_toArray, List.set_cons_zero, List.set_cons_succ]
    refine wpAnyH_take (i := 14) (oi := { dst := some 133, op := Op.nilCheck (Operand.tmp 132), type := 0, pos := "zz_law_s5814b.go:99", after := #[{ on := 13, ground := Ground.data }], guard := none }) (v := ?_) rfl (by kernel_rfl) (by kernel_rfl) (by kernel_rfl) (fun _ _ _ h => h) (Or.inl ⟨by rfl, ?_⟩) hHeld ?_
    rotate_left
    · intro w hSw
      (try dsimp only at hSw)
      go_simp
      try with_reducible rfl
    try simp only [Act.put, List.setIfInBounds_toArray, List.set_cons_zero, List.set_cons_succ]
    refine wpAnyH_take (i := 15) (oi := { dst := some 134, op := Op.fieldAddr 35 (Operand.tmp 133) 5, type := 0, pos := "zz_law_s5814b.go:99", after := #[{ on := 14, ground := Ground.data }], guard := none }) (v := ?_) rfl (by kernel_rfl) (by kernel_rfl) (by kernel_rfl) (fun _ _ _ h => h) (Or.inl ⟨by rfl, ?_⟩) hHeld ?_
    rotate_left
    · intro w hSw
      (try dsimp only at hSw)
      go_simp
      try with_reducible rfl
    try simp only [Act.put, List.setIfInBounds_toArray, List.set_cons_zero, List.set_cons_succ]
    refine wpAnyH_take (i := 16) (oi := { dst := some 135, op := Op.load 22 (Operand.tmp 134), type := 22, pos := "zz_law_s5814b.go:99", after := #[{ on := 15, ground := Ground.data }], guard := none }) (v := ?_) rfl (by kernel_rfl) (by kernel_rfl) (by kernel_rfl) (fun _ _ _ h => h) (Or.inl ⟨by rfl, ?_⟩) hHeld ?_
    rotate_left
    · intro w hSw
      (try dsimp only at hSw)
      go_simp
      try with_reducible rfl
    try simp only [Act.put, List.setIfInBounds_toArray, List.set_cons_zero, List.set_cons_succ]
    refine wpAnyH_ready (rs := [8]) (by kernel_rfl) (by simp) ?_
    refine AllReadyH.cons (o := { dst := some 127, op := Op.call { callee := Callee.value (Operand.func 5), args := #[Operand.tmp 126], argTypes := #[22] }, type := 22, pos := "zz_law_s5814b.go:99", after := #[{ on := 7, ground := Ground.data }], guard := none }) rfl (fun K hK => ?_) AllReadyH.nil
    go_simp
    refine (clone_any (Inp.hxs_ok ok.out).2 (hHeld.2.2.2.2.isB HV.out)).mono ?_
    rintro e w' ⟨u1, rfl, hn1, hI1, hB1⟩
    obtain ⟨ua1, ul1, uc1, rfl⟩ := hI1.form
    have hh1 := Grew.trans hHeld.2.2.2.2 hB1
    have HG1 : Hid (Grew _ _) := hB1
    have HI1 := hide hI1
    have HN1 := hide hn1
    clear hI1 hn1 hB1
    go_wp2_with fail
    refine hK.out _ _ ?_ (fun hHeld => ?_)
    · exact HS.out _ hh1
    clear hK K
    try simp only [Act.put, List.setIfInBounds_toArray, List.set_cons_zero, List.set_cons_succ]
    refine wpAnyH_ready (rs := [17]) (by kernel_rfl) (by simp) ?_
    refine AllReadyH.cons (o := { dst := some 136, op := Op.call { callee := Callee.value (Operand.func 5), args := #[Operand.tmp 135], argTypes := #[22] }, type := 22, pos := "zz_law_s5814b.go:99", after := #[{ on := 16, ground := Ground.data }, { on := 8, ground := Ground.chain }], guard := none }) rfl (fun K hK => ?_) AllReadyH.nil
    go_simp
    refine (clone_any (Inp.hys_ok ok.out).2 (hHeld.2.2.2.2.isB HW.out)).mono ?_
    rintro e w' ⟨u2, rfl, hn2, hI2, hB2⟩
    obtain ⟨ua2, ul2, uc2, rfl⟩ := hI2.form
    have hh2 := Grew.trans hHeld.2.2.2.2 hB2
    have HG2 : Hid (Grew _ _) := hB2
    have HI2 := hide hI2
    have HN2 := hide hn2
    clear hI2 hn2 hB2
    go_wp2_with fail
    refine hK.out _ _ ?_ (fun hHeld => ?_)
    · exact HS.out _ hh2
    clear hK K
    try simp only [Act.put, List.setIfInBounds_toArray, List.set_cons_zero, List.set_cons_succ]
    refine wpAnyH_take (i := 18) (oi := { dst := some 137, op := Op.build 35 #[(0, Operand.tmp 122), (1, Operand.tmp 127), (4, Operand.tmp 131), (5, Operand.tmp 136)], type := 35, pos := "zz_law_s5814b.go:99", after := #[{ on := 3, ground := Ground.data }, { on := 8, ground := Ground.data }, { on := 12, ground := Ground.data }, { on := 17, ground := Ground.data }], guard := none }) (v := ?_) rfl (by kernel_rfl) (by kernel_rfl) (by kernel_rfl) (fun _ _ _ h => h) (Or.inl ⟨by rfl, ?_⟩) hHeld ?_
    rotate_left
    · intro w hSw
      (try dsimp only at hSw)
      go_simp
      try with_reducible rfl
    try simp only [Act.put, List.setIfInBounds_toArray, List.set_cons_zero, List.set_cons_succ]
    refine wpAnyH_ready (rs := [19]) (by kernel_rfl) (by simp) ?_
    refine AllReadyH.cons (o := { dst := some 138, op := Op.box 35 (Operand.tmp 137), type := 31, pos := "zz_law_s5814b.go:99", after := #[{ on := 18, ground := Ground.data }], guard := none }) rfl (fun K hK => ?_) AllReadyH.nil
    go_simp
    refine hK.out _ _ ?_ (fun hHeld => ?_)
    · exact HS.out _ (Grew.alloc hHeld.2.2.2.2 _)
    clear hK K
    try simp only [Act.put, List.setIfInBounds_toArray, List.set_cons_zero, List.set_cons_succ]
    refine wpAnyH_take (i := 20) (oi := { dst := some 12, op := Op.assign (Operand.tmp 138), type := 31, pos := "zz_law_s5814b.go:99", after := #[{ on := 19, ground := Ground.data }, { on := 17, ground := Ground.chain }, { on := 0, ground := Ground.phase }, { on := 1, ground := Ground.phase }, { on := 2, ground := Ground.phase }, { on := 3, ground := Ground.phase }, { on := 4, ground := Ground.phase }, { on := 5, ground := Ground.phase }, { on := 6, ground := Ground.phase }, { on := 7, ground := Ground.phase }, { on := 8, ground := Ground.phase }, { on := 9, ground := Ground.phase }, { on := 10, ground := Ground.phase }, { on := 11, ground := Ground.phase }, { on := 12, ground := Ground.phase }, { on := 13, ground := Ground.phase }, { on := 14, ground := Ground.phase }, { on := 15, ground := Ground.phase }, { on := 16, ground := Ground.phase }, { on := 17, ground := Ground.phase }, { on := 18, ground := Ground.phase }, { on := 19, ground := Ground.phase }], guard := none }) (v := ?_) rfl (by kernel_rfl) (by kernel_rfl) (by kernel_rfl) (fun _ _ _ h => h) (Or.inl ⟨by rfl, ?_⟩) hHeld ?_
    rotate_left
    · intro w hSw
      (try dsimp only at hSw)
      go_simp
      try with_reducible rfl
    try simp only [Act.put, List.setIfInBounds_toArray, List.set_cons_zero, List.set_cons_succ]
    refine wpAnyH_done (by kernel_rfl) ?_ _
    go_upto_region 22 with fail
    apply stage15 (ok := ok) (B := hide (B.out.ext (hh2.alloc _))) (h8 := h8.out.ext (hh2.alloc _)) (h9 := h9.out.ext (hh2.alloc _)) (hkk := (hh2.alloc _).blk hkk.out) (h11 := h11.out.ext (hh2.alloc _)) (h12 := .inl ⟨h7, _, _, _, rfl, hp_alloc_eq _ _, HN1.out.trans HM1.out, HN2.out.trans HM2.out, (HG2.out.alloc _).isB HI1.out, ((Grew.refl _).alloc _).isB HI2.out⟩) (hQ := rfl) (hK := by assumption)
  · go_upto_region 22 with fail
    apply stage15 (ok := ok) (B := hide (B.out.ext (Grew.refl _))) (h8 := h8.out.ext (Grew.refl _)) (h9 := h9.out.ext (Grew.refl _)) (hkk := (Grew.refl _).blk hkk.out) (h11 := h11.out.ext (Grew.refl _)) (h12 := .inr ⟨h7, rfl⟩) (hQ := rfl) (hK := by assumption)

set_option maxRecDepth 100000 in
set_option maxHeartbeats 1600000 in
theorem stage11 (i : Inp) (ok : Hid i.Ok) (w0 W : World) (ib kb : Nat) (B : Hid (Base i w0 ib kb W)) (s8 : Value) (h8 : Made W s8 i.tR i.q13 i.v9 i.v10 i.xs9 i.xs10) (s9 : Value) (h9 : Made W s9 i.tR i.q13 i.v9 i.v10 i.xs9 i.xs10) (kk : Nat) (hkk : W.heap[kk]? = some (.cells (KC i.tS i.kS) 37)) (vin u11 u12 u13 u14 u15 u16 u17 u18 u19 u20 u21 u22 u23 u24 u25 u26 u27 u28 u29 u30 u31 u32 u33 u34 u35 u36 u37 u38 u39 u40 u41 u42 u43 u44 u45 u46 u47 u48 u49 u50 u51 u52 u53 u54 u55 u56 u57 u58 u59 u60 u61 u62 u63 u64 u65 u66 u67 u68 u69 u70 u71 u72 u73 u74 u75 u76 u77 u78 u79 u80 u81 u82 u83 u84 u85 u86 u87 u88 u89 u90 u91 u92 u93 u94 u95 u96 u97 u98 u99 u100 u101 u102 u103 u104 u105 u106 u107 u108 u109 u110 u111 u112 u113 u114 u115 u116 u117 u118 u119 u120 u121 u122 u123 u124 u125 u126 u127 u128 u129 u130 u131 u132 u133 u134 u135 u136 u137 u138 u139 u140 u141 u142 u143 u144 u145 u146 u147 u148 u149 u150 u151 u152 u153 u154 u155 u156 u157 u158 u159 u160 u161 u162 u163 u164 u165 u166 u167 u168 u169 u170 u171 u172 u173 u174 u175 u176 u177 u178 u179 u180 u181 u182 u183 u184 u185 u186 u187 u188 u189 u190 u191 u192 u193 u194 u195 u196 u197 u198 u199 u200 u201 u202 u203 u204 u205 u206 u207 u208 u209 u210 u211 u212 u213 u214 u215 u216 u217 u218 u219 u220 u221 u222 u223 u224 u225 u226 u227 u228 u229 u230 u231 u232 u233 u234 u235 u236 u237 u238 u239 u240 u241 u242 u243 u244 u245 u246 u247 u248 u249 u250 u251 u252 u253 u254 u255 u256 u257 u258 u259 u260 u261 u262 u263 u264 u265 u266 u267 u268 u269 u270 u271 u272 u273 u274 u275 u276 u277 u278 u279 u280 u281 u282 u283 u284 u285 u286 u287 u288 u289 u290 u291 u292 u293 u294 u295 u296 u297 u298 u299 u300 u301 u302 u303 u304 : Value) (Q : Exit → Act → World → Prop) (hQ : Q = bodyPost Yba.prog Yba.f3 fun e w' => e = .returned (.bool true) ∧ Below w0.heap.size w0 w')
    (K : Act → World → Prop) (hK : ∀ a w, (tl 12 (Yba.f3.body.getD .skip)).wp Yba.prog Q a w → K a w) :
    (hd (tl 11 (Yba.f3.body.getD .skip))).wp Yba.prog (Exit.then K Q) { tmps := List.toArray (vin :: .pointer (some ⟨ib, 0, none⟩) :: .bool false :: .int .i64 i.H :: .int .i64 i.L :: .int .i64 i.A :: .string i.tR :: .pointer (some ⟨kb, 0, none⟩) :: s8 :: s9 :: .pointer (some ⟨kk, 0, none⟩) :: u11 :: u12 :: u13 :: u14 :: u15 :: u16 :: u17 :: u18 :: u19 :: u20 :: u21 :: u22 :: u23 :: u24 :: u25 :: u26 :: u27 :: u28 :: u29 :: u30 :: u31 :: u32 :: u33 :: u34 :: u35 :: u36 :: u37 :: u38 :: u39 :: u40 :: u41 :: u42 :: u43 :: u44 :: u45 :: u46 :: u47 :: u48 :: u49 :: u50 :: u51 :: u52 :: u53 :: u54 :: u55 :: u56 :: u57 :: u58 :: u59 :: u60 :: u61 :: u62 :: u63 :: u64 :: u65 :: u66 :: u67 :: u68 :: u69 :: u70 :: u71 :: u72 :: u73 :: u74 :: u75 :: u76 :: u77 :: u78 :: u79 :: u80 :: u81 :: u82 :: u83 :: u84 :: u85 :: u86 :: u87 :: u88 :: u89 :: u90 :: u91 :: u92 :: u93 :: u94 :: u95 :: u96 :: u97 :: u98 :: u99 :: u100 :: u101 :: u102 :: u103 :: u104 :: u105 :: u106 :: u107 :: u108 :: u109 :: u110 :: u111 :: u112 :: u113 :: u114 :: u115 :: u116 :: u117 :: u118 :: u119 :: u120 :: u121 :: u122 :: u123 :: u124 :: u125 :: u126 :: u127 :: u128 :: u129 :: u130 :: u131 :: u132 :: u133 :: u134 :: u135 :: u136 :: u137 :: u138 :: u139 :: u140 :: u141 :: u142 :: u143 :: u144 :: u145 :: u146 :: u147 :: u148 :: u149 :: u150 :: u151 :: u152 :: u153 :: u154 :: u155 :: u156 :: u157 :: u158 :: u159 :: u160 :: u161 :: u162 :: u163 :: u164 :: u165 :: u166 :: u167 :: u168 :: u169 :: u170 :: u171 :: u172 :: u173 :: u174 :: u175 :: u176 :: u177 :: u178 :: u179 :: u180 :: u181 :: u182 :: u183 :: u184 :: u185 :: u186 :: u187 :: u188 :: u189 :: u190 :: u191 :: u192 :: u193 :: u194 :: u195 :: u196 :: u197 :: u198 :: u199 :: u200 :: u201 :: u202 :: u203 :: u204 :: u205 :: u206 :: u207 :: u208 :: u209 :: u210 :: u211 :: u212 :: u213 :: u214 :: u215 :: u216 :: u217 :: u218 :: u219 :: u220 :: u221 :: u222 :: u223 :: u224 :: u225 :: u226 :: u227 :: u228 :: u229 :: u230 :: u231 :: u232 :: u233 :: u234 :: u235 :: u236 :: u237 :: u238 :: u239 :: u240 :: u241 :: u242 :: u243 :: u244 :: u245 :: u246 :: u247 :: u248 :: u249 :: u250 :: u251 :: u252 :: u253 :: u254 :: u255 :: u256 :: u257 :: u258 :: u259 :: u260 :: u261 :: u262 :: u263 :: u264 :: u265 :: u266 :: u267 :: u268 :: u269 :: u270 :: u271 :: u272 :: u273 :: u274 :: u275 :: u276 :: u277 :: u278 :: u279 :: u280 :: u281 :: u282 :: u283 :: u284 :: u285 :: u286 :: u287 :: u288 :: u289 :: u290 :: u291 :: u292 :: u293 :: u294 :: u295 :: u296 :: u297 :: u298 :: u299 :: u300 :: u301 :: u302 :: u303 :: u304 :: []), defers := [] } W := by
  have g7 : W.cell? ⟨ib, 7, none⟩ = some (.bool i.b7) := cell_at B.out.box rfl
  have g8 : W.cell? ⟨ib, 8, none⟩ = some (.bool i.b8) := cell_at B.out.box rfl
  replace h8 := hide h8
  replace h9 := hide h9
  replace hkk := hide hkk
  dsimp only [Yba.f3, Option.getD, tl, hd] at hK ⊢
  subst hQ
  cases h7 : i.b7 with
  | false =>
    rw [h7] at g7
    go_upto_region 19 with fail
    apply stage13 (ok := ok) (B := hide (B.out.ext (Grew.refl _))) (h8 := h8.out.ext (Grew.refl _)) (h9 := h9.out.ext (Grew.refl _)) (hkk := (Grew.refl _).blk hkk.out) (h11 := .inr ⟨h7, rfl⟩) (hQ := rfl) (hK := by assumption)
  | true =>
    rw [h7] at g7
    cases h8' : i.b8 with
    | true =>
      rw [h8'] at g8
      have HS : Hid (∀ w', Grew W w' → (w'.cell? ⟨ib, 2, none⟩ = some (.int .u8 i.a2) ∧ w'.cell? ⟨ib, 9, none⟩ = some (.slice i.p9 i.l9 i.c9) ∧ w'.cell? ⟨ib, 13, none⟩ = some (.int .u64 i.q13) ∧ w'.cell? ⟨ib, 10, none⟩ = some (.slice i.p10 i.l10 i.c10) ∧ Grew W w')) := by
        intro w' hg
        have hh := hg.blk B.out.box
        exact ⟨cell_at hh rfl, cell_at hh rfl, cell_at hh rfl, cell_at hh rfl, hg⟩
      have e1 : i.hq = i.q13 := by simp [Inp.hq, h8']
      have e2 : i.hv = i.v9 := by simp [Inp.hv, h8']
      have e3 : i.hg = i.v10 := by simp [Inp.hg, h8']
      have e4 : i.hxs = i.xs9 := by simp [Inp.hxs, h8']
      have e5 : i.hys = i.xs10 := by simp [Inp.hys, h8']
      have EE := hide (And.intro e1 (And.intro e2 (And.intro e3 (And.intro e4 e5))))
      clear e1 e2 e3 e4 e5
      go_upto_region 17 with fail
      refine wp_region_held_drew (S := fun w' => w'.cell? ⟨ib, 2, none⟩ = some (.int .u8 i.a2) ∧ w'.cell? ⟨ib, 9, none⟩ = some (.slice i.p9 i.l9 i.c9) ∧ w'.cell? ⟨ib, 13, none⟩ = some (.int .u64 i.q13) ∧ w'.cell? ⟨ib, 10, none⟩ = some (.slice i.p10 i.l10 i.c10) ∧ Grew W w') (by kernel_rfl) ?_ (fun hHeld => ?_)
      · exact HS.out _ (Grew.drew (Grew.refl _))
      refine wpAnyH_take (i := 0) (oi := { dst := some 91, op := Op.fieldAddr 25 (Operand.tmp 1) 2, type := 0, pos := "zz_law_s5814b.go:92", after := #[], guard := none }) (v := ?_) rfl (by kernel_rfl) (by kernel_rfl) (by kernel_rfl) (fun _ _ _ h => h) (Or.inl ⟨by rfl, ?_⟩) hHeld ?_
      rotate_left
      · intro w hSw
        (try dsimp only at hSw)
        go_simp
        try with_reducible rfl
      try simp only [Act.put, List.setIfInBounds_toArray, List.set_cons_zero, List.set_cons_succ]
      refine wpAnyH_take (i := 1) (oi := { dst := some 92, op := Op.load 5 (Operand.tmp 91), type := 5, pos := "zz_law_s5814b.go:92", after := #[{ on := 0, ground := Ground.data }], guard := none }) (v := ?_) rfl (by kernel_rfl) (by kernel_rfl) (by kernel_rfl) (fun _ _ _ h => h) (Or.inl ⟨by rfl, ?_⟩) hHeld ?_
      rotate_left
      · intro w hSw
        (try dsimp only at hSw)
        go_simp
        try with_reducible rfl
      try simp only [Act.put, List.setIfInBounds_toArray, List.set_cons_zero, List.set_cons_succ]
      refine wpAnyH_take (i := 3) (oi := { dst := some 94, op := Op.fieldAddr 25 (Operand.tmp 1) 9, type := 0, pos := "zz_law_s5814b.go:92", after := #[], guard := none }) (v := ?_) rfl (by kernel_rfl) (by kernel_rfl) (by kernel_rfl) (fun _ _ _ h => h) (Or.inl ⟨by rfl, ?_⟩) hHeld ?_
      rotate_left
      · intro w hSw
        (try dsimp only at hSw)
        go_simp
        try with_reducible rfl
      try simp only [Act.put, List.setIfInBounds_toArray, List.set_cons_zero, List.set_cons_succ]
      refine wpAnyH_take (i := 4) (oi := { dst := some 95, op := Op.load 22 (Operand.tmp 94), type := 22, pos := "zz_law_s5814b.go:92", after := #[{ on := 3, ground := Ground.data }], guard := none }) (v := ?_) rfl (by kernel_rfl) (by kernel_rfl) (by kernel_rfl) (fun _ _ _ h => h) (Or.inl ⟨by rfl, ?_⟩) hHeld ?_
      rotate_left
      · intro w hSw
        (try dsimp only at hSw)
        go_simp
        try with_reducible rfl
      try simp only [Act.put, List.setIfInBounds_toArray, List.set_cons_zero, List.set_cons_succ]
      refine wpAnyH_take (i := 6) (oi := { dst := some 97, op := Op.fieldAddr 25 (Operand.tmp 1) 13, type := 0, pos := "zz_law_s5814b.go:92", after := #[], guard := none }) (v := ?_) rfl (by kernel_rfl) (by kernel_rfl) (by kernel_rfl) (fun _ _ _ h => h) (Or.inl ⟨by rfl, ?_⟩) hHeld ?_
      rotate_left
      · intro w hSw
        (try dsimp only at hSw)
        go_simp
        try with_reducible rfl
      try simp only [Act.put, List.setIfInBounds_toArray, List.set_cons_zero, List.set_cons_succ]
      refine wpAnyH_take (i := 7) (oi := { dst := some 98, op := Op.load 23 (Operand.tmp 97), type := 23, pos := "zz_law_s5814b.go:92", after := #[{ on := 6, ground := Ground.data }], guard := none }) (v := ?_) rfl (by kernel_rfl) (by kernel_rfl) (by kernel_rfl) (fun _ _ _ h => h) (Or.inl ⟨by rfl, ?_⟩) hHeld ?_
      rotate_left
      · intro w hSw
        (try dsimp only at hSw)
        go_simp
        try with_reducible rfl
      try simp only [Act.put, List.setIfInBounds_toArray, List.set_cons_zero, List.set_cons_succ]
      refine wpAnyH_take (i := 8) (oi := { dst := some 99, op := Op.fieldAddr 25 (Operand.tmp 1) 10, type := 0, pos := "zz_law_s5814b.go:92", after := #[], guard := none }) (v := ?_) rfl (by kernel_rfl) (by kernel_rfl) (by kernel_rfl) (fun _ _ _ h => h) (Or.inl ⟨by rfl, ?_⟩) hHeld ?_
      rotate_left
      · intro w hSw
        (try dsimp only at hSw)
        go_simp
        try with_reducible rfl
      try simp only [Act.put, List.setIfInBounds_toArray, List.set_cons_zero, List.set_cons_succ]
      refine wpAnyH_take (i := 9) (oi := { dst := some 100, op := Op.load 22 (Operand.tmp 99), type := 22, pos := "zz_law_s5814b.go:92", after := #[{ on := 8, ground := Ground.data }], guard := none }) (v := ?_) rfl (by kernel_rfl) (by kernel_rfl) (by kernel_rfl) (fun _ _ _ h => h) (Or.inl ⟨by rfl, ?_⟩) hHeld ?_
      rotate_left
      · intro w hSw
        (try dsimp only at hSw)
        go_simp
        try with_reducible rfl
      try simp only [Act.put, List.setIfInBounds_toArray, List.set_cons_zero, List.set_cons_succ]
      refine wpAnyH_ready (rs := [2]) (by kernel_rfl) (by simp) ?_
      refine AllReadyH.cons (o := { dst := some 93, op := Op.call { callee := Callee.value (Operand.func 4), args := #[Operand.tmp 92], argTypes := #[5] }, type := 27, pos := "zz_law_s5814b.go:92", after := #[{ on := 1, ground := Ground.data }], guard := none }) rfl (fun K hK => ?_) AllReadyH.nil
      go_simp
      refine (typ_any _ _ ok.out.a2.1 ok.out.a2.2).mono ?_
      rintro e w' ⟨rfl, rfl⟩
      go_wp2_with fail
      refine hK.out _ _ ?_ (fun hHeld => ?_)
      · exact hHeld
      clear hK K
      try simp only [Act.put, List.setIfInBounds_toArray, List.set_cons_zero, List.set_cons_succ]
      refine wpAnyH_ready (rs := [5]) (by kernel_rfl) (by simp) ?_
      refine AllReadyH.cons (o := { dst := some 96, op := Op.call { callee := Callee.value (Operand.func 5), args := #[Operand.tmp 95], argTypes := #[22] }, type := 22, pos := "zz_law_s5814b.go:92", after := #[{ on := 4, ground := Ground.data }, { on := 2, ground := Ground.chain }], guard := none }) rfl (fun K hK => ?_) AllReadyH.nil
      go_simp
      refine (clone_any ok.out.m9 (hHeld.2.2.2.2.isB B.out.s9)).mono ?_
      rintro e w' ⟨u1, rfl, hn1, hI1, hB1⟩
      obtain ⟨ua1, ul1, uc1, rfl⟩ := hI1.form
      have hh1 := Grew.trans hHeld.2.2.2.2 hB1
      have HG1 : Hid (Grew _ _) := hB1
      have HI1 := hide hI1
      have HN1 := hide hn1
      clear hI1 hn1 hB1
      go_wp2_with fail
      refine hK.out _ _ ?_ (fun hHeld => ?_)
      · exact HS.out _ hh1
      clear hK K
      try simp only [Act.put, List.setIfInBounds_toArray, List.set_cons_zero, List.set_cons_succ]
      refine wpAnyH_ready (rs := [10]) (by kernel_rfl) (by simp) ?_
      refine AllReadyH.cons (o := { dst := some 101, op := Op.call { callee := Callee.value (Operand.func 5), args := #[Operand.tmp 100], argTypes := #[22] }, type := 22, pos := "zz_law_s5814b.go:92", after := #[{ on := 9, ground := Ground.data }, { on := 5, ground := Ground.chain }], guard := none }) rfl (fun K hK => ?_) AllReadyH.nil
      go_simp
      refine (clone_any ok.out.m10 (hHeld.2.2.2.2.isB B.out.s10)).mono ?_
      rintro e w' ⟨u2, rfl, hn2, hI2, hB2⟩
      obtain ⟨ua2, ul2, uc2, rfl⟩ := hI2.form
      have hh2 := Grew.trans hHeld.2.2.2.2 hB2
      have HG2 : Hid (Grew _ _) := hB2
      have HI2 := hide hI2
      have HN2 := hide hn2
      clear hI2 hn2 hB2
      go_wp2_with fail
      refine hK.out _ _ ?_ (fun hHeld => ?_)
      · exact HS.out _ hh2
      clear hK K
      try simp only [Act.put, List.setIfInBounds_toArray, List.set_cons_zero, List.set_cons_succ]
      refine wpAnyH_take (i := 11) (oi := { dst := some 102, op := Op.build 35 #[(0, Operand.tmp 93), (1, Operand.tmp 96), (4, Operand.tmp 98), (5, Operand.tmp 101)], type := 35, pos := "zz_law_s5814b.go:92", after := #[{ on := 2, ground := Ground.data }, { on := 5, ground := Ground.data }, { on := 7, ground := Ground.data }, { on := 10, ground := Ground.data }], guard := none }) (v := ?_) rfl (by kernel_rfl) (by kernel_rfl) (by kernel_rfl) (fun _ _ _ h => h) (Or.inl ⟨by rfl, ?_⟩) hHeld ?_
      rotate_left
      · intro w hSw
        (try dsimp only at hSw)
        go_simp
        try with_reducible rfl
      try simp only [Act.put, List.setIfInBounds_toArray, List.set_cons_zero, List.set_cons_succ]
      refine wpAnyH_ready (rs := [12]) (by kernel_rfl) (by simp) ?_
      refine AllReadyH.cons (o := { dst := some 103, op := Op.box 35 (Operand.tmp 102), type := 31, pos := "zz_law_s5814b.go:92", after := #[{ on := 11, ground := Ground.data }], guard := none }) rfl (fun K hK => ?_) AllReadyH.nil
      go_simp
      refine hK.out _ _ ?_ (fun hHeld => ?_)
      · exact HS.out _ (Grew.alloc hHeld.2.2.2.2 _)
      clear hK K
      try simp only [Act.put, List.setIfInBounds_toArray, List.set_cons_zero, List.set_cons_succ]
      refine wpAnyH_take (i := 13) (oi := { dst := some 11, op := Op.assign (Operand.tmp 103), type := 31, pos := "zz_law_s5814b.go:92", after := #[{ on := 12, ground := Ground.data }, { on := 10, ground := Ground.chain }, { on := 0, ground := Ground.phase }, { on := 1, ground := Ground.phase }, { on := 2, ground := Ground.phase }, { on := 3, ground := Ground.phase }, { on := 4, ground := Ground.phase }, { on := 5, ground := Ground.phase }, { on := 6, ground := Ground.phase }, { on := 7, ground := Ground.phase }, { on := 8, ground := Ground.phase }, { on := 9, ground := Ground.phase }, { on := 10, ground := Ground.phase }, { on := 11, ground := Ground.phase }, { on := 12, ground := Ground.phase }], guard := none }) (v := ?_) rfl (by kernel_rfl) (by kernel_rfl) (by kernel_rfl) (fun _ _ _ h => h) (Or.inl ⟨by rfl, ?_⟩) hHeld ?_
      rotate_left
      · intro w hSw
        (try dsimp only at hSw)
        go_simp
        try with_reducible rfl
      try simp only [Act.put, List.setIfInBounds_toArray, List.set_cons_zero, List.set_cons_succ]
      refine wpAnyH_done (by kernel_rfl) ?_ _
      go_upto_region 19 with fail
      apply stage13 (ok := ok) (B := hide (B.out.ext (hh2.alloc _))) (h8 := h8.out.ext (hh2.alloc _)) (h9 := h9.out.ext (hh2.alloc _)) (hkk := (hh2.alloc _).blk hkk.out) (h11 := .inl ⟨h7, by rw [EE.out.1, EE.out.2.1, EE.out.2.2.1, EE.out.2.2.2.1, EE.out.2.2.2.2]; exact ⟨_, _, _, rfl, hp_alloc_eq _ _, HN1.out, HN2.out, (HG2.out.alloc _).isB HI1.out, ((Grew.refl _).alloc _).isB HI2.out⟩⟩) (hQ := rfl) (hK := by assumption)
    | false =>
      rw [h8'] at g8
      have HS : Hid (∀ w', Grew W w' → (w'.cell? ⟨ib, 2, none⟩ = some (.int .u8 i.a2) ∧ w'.cell? ⟨ib, 11, none⟩ = some (.slice i.p11 i.l11 i.c11) ∧ w'.cell? ⟨ib, 14, none⟩ = some (.int .u64 i.q14) ∧ w'.cell? ⟨ib, 12, none⟩ = some (.slice i.p12 i.l12 i.c12) ∧ Grew W w')) := by
        intro w' hg
        have hh := hg.blk B.out.box
        exact ⟨cell_at hh rfl, cell_at hh rfl, cell_at hh rfl, cell_at hh rfl, hg⟩
      have e1 : i.hq = i.q14 := by simp [Inp.hq, h8']
      have e2 : i.hv = i.v11 := by simp [Inp.hv, h8']
      have e3 : i.hg = i.v12 := by simp [Inp.hg, h8']
      have e4 : i.hxs = i.xs11 := by simp [Inp.hxs, h8']
      have e5 : i.hys = i.xs12 := by simp [Inp.hys, h8']
      have EE := hide (And.intro e1 (And.intro e2 (And.intro e3 (And.intro e4 e5))))
      clear e1 e2 e3 e4 e5
      go_upto_region 18 with fail
      refine wp_region_held_drew (S := fun w' => w'.cell? ⟨ib, 2, none⟩ = some (.int .u8 i.a2) ∧ w'.cell? ⟨ib, 11, none⟩ = some (.slice i.p11 i.l11 i.c11) ∧ w'.cell? ⟨ib, 14, none⟩ = some (.int .u64 i.q14) ∧ w'.cell? ⟨ib, 12, none⟩ = some (.slice i.p12 i.l12 i.c12) ∧ Grew W w') (by kernel_rfl) ?_ (fun hHeld => ?_)
      · exact HS.out _ (Grew.drew (Grew.refl _))
      refine wpAnyH_take (i := 0) (oi := { dst := some 104, op := Op.fieldAddr 25 (Operand.tmp 1) 2, type := 0, pos := "zz_law_s5814b.go:94", after := #[], guard := none }) (v := ?_) rfl (by kernel_rfl) (by kernel_rfl) (by kernel_rfl) (fun _ _ _ h => h) (Or.inl ⟨by rfl, ?_⟩) hHeld ?_
      rotate_left
      · intro w hSw
        (try dsimp only at hSw)
        go_simp
        try with_reducible rfl
      try simp only [Act.put, List.setIfInBounds_toArray, List.set_cons_zero, List.set_cons_succ]
      refine wpAnyH_take (i := 1) (oi := { dst := some 105, op := Op.load 5 (Operand.tmp 104), type := 5, pos := "zz_law_s5814b.go:94", after := #[{ on := 0, ground := Ground.data }], guard := none }) (v := ?_) rfl (by kernel_rfl) (by kernel_rfl) (by kernel_rfl) (fun _ _ _ h => h) (Or.inl ⟨by rfl, ?_⟩) hHeld ?_
      rotate_left
      · intro w hSw
        (try dsimp only at hSw)
        go_simp
        try with_reducible rfl
      try simp only [Act.put, List.setIfInBounds_toArray, List.set_cons_zero, List.set_cons_succ]
      refine wpAnyH_take (i := 3) (oi := { dst := some 107, op := Op.fieldAddr 25 (Operand.tmp 1) 11, type := 0, pos := "zz_law_s5814b.go:94", after := #[], guard := none }) (v := ?_) rfl (by kernel_rfl) (by kernel_rfl) (by kernel_rfl) (fun _ _ _ h => h) (Or.inl ⟨by rfl, ?_⟩) hHeld ?_
      rotate_left
      · intro w hSw
        (try dsimp only at hSw)
        go_simp
        try with_reducible rfl
      try simp only [Act.put, List.setIfInBounds_toArray, List.set_cons_zero, List.set_cons_succ]
      refine wpAnyH_take (i := 4) (oi := { dst := some 108, op := Op.load 22 (Operand.tmp 107), type := 22, pos := "zz_law_s5814b.go:94", after := #[{ on := 3, ground := Ground.data }], guard := none }) (v := ?_) rfl (by kernel_rfl) (by kernel_rfl) (by kernel_rfl) (fun _ _ _ h => h) (Or.inl ⟨by rfl, ?_⟩) hHeld ?_
      rotate_left
      · intro w hSw
        (try dsimp only at hSw)
        go_simp
        try with_reducible rfl
      try simp only [Act.put, List.setIfInBounds_toArray, List.set_cons_zero, List.set_cons_succ]
      refine wpAnyH_take (i := 6) (oi := { dst := some 110, op := Op.fieldAddr 25 (Operand.tmp 1) 14, type := 0, pos := "zz_law_s5814b.go:94", after := #[], guard := none }) (v := ?_) rfl (by kernel_rfl) (by kernel_rfl) (by kernel_rfl) (fun _ _ _ h => h) (Or.inl ⟨by rfl, ?_⟩) hHeld ?_
      rotate_left
      · intro w hSw
        (try dsimp only at hSw)
        go_simp
        try with_reducible rfl
      try simp only [Act.put, List.setIfInBounds_toArray, List.set_cons_zero, List.set_cons_succ]
      refine wpAnyH_take (i := 7) (oi := { dst := some 111, op := Op.load 23 (Operand.tmp 110), type := 23, pos := "zz_law_s5814b.go:94", after := #[{ on := 6, ground := Ground.data }], guard := none }) (v := ?_) rfl (by kernel_rfl) (by kernel_rfl) (by kernel_rfl) (fun _ _ _ h => h) (Or.inl ⟨by rfl, ?_⟩) hHeld ?_
      rotate_left
      · intro w hSw
        (try dsimp only at hSw)
        go_simp
        try with_reducible rfl
      try simp only [Act.put, List.setIfInBounds_toArray, List.set_cons_zero, List.set_cons_succ]
      refine wpAnyH_take (i := 8) (oi := { dst := some 112, op := Op.fieldAddr 25 (Operand.tmp 1) 12, type := 0, pos := "zz_law_s5814b.go:94", after := #[], guard := none }) (v := ?_) rfl (by kernel_rfl) (by kernel_rfl) (by kernel_rfl) (fun _ _ _ h => h) (Or.inl ⟨by rfl, ?_⟩) hHeld ?_
      rotate_left
      · intro w hSw
        (try dsimp only at hSw)
        go_simp
        try with_reducible rfl
      try simp only [Act.put, List.setIfInBounds_toArray, List.set_cons_zero, List.set_cons_succ]
      refine wpAnyH_take (i := 9) (oi := { dst := some 113, op := Op.load 22 (Operand.tmp 112), type := 22, pos := "zz_law_s5814b.go:94", after := #[{ on := 8, ground := Ground.data }], guard := none }) (v := ?_) rfl (by kernel_rfl) (by kernel_rfl) (by kernel_rfl) (fun _ _ _ h => h) (Or.inl ⟨by rfl, ?_⟩) hHeld ?_
      rotate_left
      · intro w hSw
        (try dsimp only at hSw)
        go_simp
        try with_reducible rfl
      try simp only [Act.put, List.setIfInBounds_toArray, List.set_cons_zero, List.set_cons_succ]
      refine wpAnyH_ready (rs := [2]) (by kernel_rfl) (by simp) ?_
      refine AllReadyH.cons (o := { dst := some 106, op := Op.call { callee := Callee.value (Operand.func 4), args := #[Operand.tmp 105], argTypes := #[5] }, type := 27, pos := "zz_law_s5814b.go:94", after := #[{ on := 1, ground := Ground.data }], guard := none }) rfl (fun K hK => ?_) AllReadyH.nil
      go_simp
      refine (typ_any _ _ ok.out.a2.1 ok.out.a2.2).mono ?_
      rintro e w' ⟨rfl, rfl⟩
      go_wp2_with fail
      refine hK.out _ _ ?_ (fun hHeld => ?_)
      · exact hHeld
      clear hK K
      try simp only [Act.put, List.setIfInBounds_toArray, List.set_cons_zero, List.set_cons_succ]
      refine wpAnyH_ready (rs := [5]) (by kernel_rfl) (by simp) ?_
      refine AllReadyH.cons (o := { dst := some 109, op := Op.call { callee := Callee.value (Operand.func 5), args := #[Operand.tmp 108], argTypes := #[22] }, type := 22, pos := "zz_law_s5814b.go:94", after := #[{ on := 4, ground := Ground.data }, { on := 2, ground := Ground.chain }], guard := none }) rfl (fun K hK => ?_) AllReadyH.nil
      go_simp
      refine (clone_any ok.out.m11 (hHeld.2.2.2.2.isB B.out.s11)).mono ?_
      rintro e w' ⟨u1, rfl, hn1, hI1, hB1⟩
      obtain ⟨ua1, ul1, uc1, rfl⟩ := hI1.form
      have hh1 := Grew.trans hHeld.2.2.2.2 hB1
      have HG1 : Hid (Grew _ _) := hB1
      have HI1 := hide hI1
      have HN1 := hide hn1
      clear hI1 hn1 hB1
      go_wp2_with fail
      refine hK.out _ _ ?_ (fun hHeld => ?_)
      · exact HS.out _ hh1
      clear hK K
      try simp only [Act.put, List.setIfInBounds_toArray, List.set_cons_zero, List.set_cons_succ]
      refine wpAnyH_ready (rs := [10]) (by kernel_rfl) (by simp) ?_
      refine AllReadyH.cons (o := { dst := some 114, op := Op.call { callee := Callee.value (Operand.func 5), args := #[Operand.tmp 113], argTypes := #[22] }, type := 22, pos := "zz_law_s5814b.go:94", after := #[{ on := 9, ground := Ground.data }, { on := 5, ground := Ground.chain }], guard := none }) rfl (fun K hK => ?_) AllReadyH.nil
      go_simp
      refine (clone_any ok.out.m12 (hHeld.2.2.2.2.isB B.out.s12)).mono ?_
      rintro e w' ⟨u2, rfl, hn2, hI2, hB2⟩
      obtain ⟨ua2, ul2, uc2, rfl⟩ := hI2.form
      have hh2 := Grew.trans hHeld.2.2.2.2 hB2
      have HG2 : Hid (Grew _ _) := hB2
      have HI2 := hide hI2
      have HN2 := hide hn2
      clear hI2 hn2 hB2
      go_wp2_with fail
      refine hK.out _ _ ?_ (fun hHeld => ?_)
      · exact HS.out _ hh2
      clear hK K
      try simp only [Act.put, List.setIfInBounds_toArray, List.set_cons_zero, List.set_cons_succ]
      refine wpAnyH_take (i := 11) (oi := { dst := some 115, op := Op.build 35 #[(0, Operand.tmp 106), (1, Operand.tmp 109), (4, Operand.tmp 111), (5, Operand.tmp 114)], type := 35, pos := "zz_law_s5814b.go:94", after := #[{ on := 2, ground := Ground.data }, { on := 5, ground := Ground.data }, { on := 7, ground := Ground.data }, { on := 10, ground := Ground.data }], guard := none }) (v := ?_) rfl (by kernel_rfl) (by kernel_rfl) (by kernel_rfl) (fun _ _ _ h => h) (Or.inl ⟨by rfl, ?_⟩) hHeld ?_
      rotate_left
      · intro w hSw
        (try dsimp only at hSw)
        go_simp
        try with_reducible rfl
      try simp only [Act.put, List.setIfInBounds_toArray, List.set_cons_zero, List.set_cons_succ]
      refine wpAnyH_ready (rs := [12]) (by kernel_rfl) (by simp) ?_
      refine AllReadyH.cons (o := { dst := some 116, op := Op.box 35 (Operand.tmp 115), type := 31, pos := "zz_law_s5814b.go:94", after := #[{ on := 11, ground := Ground.data }], guard := none }) rfl (fun K hK => ?_) AllReadyH.nil
      go_simp
      refine hK.out _ _ ?_ (fun hHeld => ?_)
      · exact HS.out _ (Grew.alloc hHeld.2.2.2.2 _)
      clear hK K
      try simp only [Act.put, List.setIfInBounds_toArray, List.set_cons_zero, List.set_cons_succ]
      refine wpAnyH_take (i := 13) (oi := { dst := some 11, op := Op.assign (Operand.tmp 116), type := 31, pos := "zz_law_s5814b.go:94", after := #[{ on := 12, ground := Ground.data }, { on := 10, ground := Ground.chain }, { on := 0, ground := Ground.phase }, { on := 1, ground := Ground.phase }, { on := 2, ground := Ground.phase }, { on := 3, ground := Ground.phase }, { on := 4, ground := Ground.phase }, { on := 5, ground := Ground.phase }, { on := 6, ground := Ground.phase }, { on := 7, ground := Ground.phase }, { on := 8, ground := Ground.phase }, { on := 9, ground := Ground.phase }, { on := 10, ground := Ground.phase }, { on := 11, ground := Ground.phase }, { on := 12, ground := Ground.phase }], guard := none }) (v := ?_) rfl (by kernel_rfl) (by kernel_rfl) (by kernel_rfl) (fun _ _ _ h => h) (Or.inl ⟨by rfl, ?_⟩) hHeld ?_
      rotate_left
      · intro w hSw
        (try dsimp only at hSw)
        go_simp
        try with_reducible rfl
      try simp only [Act.put, List.setIfInBounds_toArray, List.set_cons_zero, List.set_cons_succ]
      refine wpAnyH_done (by kernel_rfl) ?_ _
      go_upto_region 19 with fail
      apply stage13 (ok := ok) (B := hide (B.out.ext (hh2.alloc _))) (h8 := h8.out.ext (hh2.alloc _)) (h9 := h9.out.ext (hh2.alloc _)) (hkk := (hh2.alloc _).blk hkk.out) (h11 := .inl ⟨h7, by rw [EE.out.1, EE.out.2.1, EE.out.2.2.1, EE.out.2.2.2.1, EE.out.2.2.2.2]; exact ⟨_, _, _, rfl, hp_alloc_eq _ _, HN1.out, HN2.out, (HG2.out.alloc _).isB HI1.out, ((Grew.refl _).alloc _).isB HI2.out⟩⟩) (hQ := rfl) (hK := by assumption)

set_option maxRecDepth 100000 in
set_option maxHeartbeats 1600000 in
theorem stage9 (i : Inp) (ok : Hid i.Ok) (w0 W : World) (ib kb : Nat) (B : Hid (Base i w0 ib kb W)) (s8 : Value) (h8 : Made W s8 i.tR i.q13 i.v9 i.v10 i.xs9 i.xs10) (s9 : Value) (h9 : Made W s9 i.tR i.q13 i.v9 i.v10 i.xs9 i.xs10) (vin u10 u11 u12 u13 u14 u15 u16 u17 u18 u19 u20 u21 u22 u23 u24 u25 u26 u27 u28 u29 u30 u31 u32 u33 u34 u35 u36 u37 u38 u39 u40 u41 u42 u43 u44 u45 u46 u47 u48 u49 u50 u51 u52 u53 u54 u55 u56 u57 u58 u59 u60 u61 u62 u63 u64 u65 u66 u67 u68 u69 u70 u71 u72 u73 u74 u75 u76 u77 u78 u79 u80 u81 u82 u83 u84 u85 u86 u87 u88 u89 u90 u91 u92 u93 u94 u95 u96 u97 u98 u99 u100 u101 u102 u103 u104 u105 u106 u107 u108 u109 u110 u111 u112 u113 u114 u115 u116 u117 u118 u119 u120 u121 u122 u123 u124 u125 u126 u127 u128 u129 u130 u131 u132 u133 u134 u135 u136 u137 u138 u139 u140 u141 u142 u143 u144 u145 u146 u147 u148 u149 u150 u151 u152 u153 u154 u155 u156 u157 u158 u159 u160 u161 u162 u163 u164 u165 u166 u167 u168 u169 u170 u171 u172 u173 u174 u175 u176 u177 u178 u179 u180 u181 u182 u183 u184 u185 u186 u187 u188 u189 u190 u191 u192 u193 u194 u195 u196 u197 u198 u199 u200 u201 u202 u203 u204 u205 u206 u207 u208 u209 u210 u211 u212 u213 u214 u215 u216 u217 u218 u219 u220 u221 u222 u223 u224 u225 u226 u227 u228 u229 u230 u231 u232 u233 u234 u235 u236 u237 u238 u239 u240 u241 u242 u243 u244 u245 u246 u247 u248 u249 u250 u251 u252 u253 u254 u255 u256 u257 u258 u259 u260 u261 u262 u263 u264 u265 u266 u267 u268 u269 u270 u271 u272 u273 u274 u275 u276 u277 u278 u279 u280 u281 u282 u283 u284 u285 u286 u287 u288 u289 u290 u291 u292 u293 u294 u295 u296 u297 u298 u299 u300 u301 u302 u303 u304 : Value) (Q : Exit → Act → World → Prop) (hQ : Q = bodyPost Yba.prog Yba.f3 fun e w' => e = .returned (.bool true) ∧ Below w0.heap.size w0 w')
    (K : Act → World → Prop) (hK : ∀ a w, (tl 10 (Yba.f3.body.getD .skip)).wp Yba.prog Q a w → K a w) :
    (hd (tl 9 (Yba.f3.body.getD .skip))).wp Yba.prog (Exit.then K Q) { tmps := List.toArray (vin :: .pointer (some ⟨ib, 0, none⟩) :: .bool false :: .int .i64 i.H :: .int .i64 i.L :: .int .i64 i.A :: .string i.tR :: .pointer (some ⟨kb, 0, none⟩) :: s8 :: s9 :: u10 :: u11 :: u12 :: u13 :: u14 :: u15 :: u16 :: u17 :: u18 :: u19 :: u20 :: u21 :: u22 :: u23 :: u24 :: u25 :: u26 :: u27 :: u28 :: u29 :: u30 :: u31 :: u32 :: u33 :: u34 :: u35 :: u36 :: u37 :: u38 :: u39 :: u40 :: u41 :: u42 :: u43 :: u44 :: u45 :: u46 :: u47 :: u48 :: u49 :: u50 :: u51 :: u52 :: u53 :: u54 :: u55 :: u56 :: u57 :: u58 :: u59 :: u60 :: u61 :: u62 :: u63 :: u64 :: u65 :: u66 :: u67 :: u68 :: u69 :: u70 :: u71 :: u72 :: u73 :: u74 :: u75 :: u76 :: u77 :: u78 :: u79 :: u80 :: u81 :: u82 :: u83 :: u84 :: u85 :: u86 :: u87 :: u88 :: u89 :: u90 :: u91 :: u92 :: u93 :: u94 :: u95 :: u96 :: u97 :: u98 :: u99 :: u100 :: u101 :: u102 :: u103 :: u104 :: u105 :: u106 :: u107 :: u108 :: u109 :: u110 :: u111 :: u112 :: u113 :: u114 :: u115 :: u116 :: u117 :: u118 :: u119 :: u120 :: u121 :: u122 :: u123 :: u124 :: u125 :: u126 :: u127 :: u128 :: u129 :: u130 :: u131 :: u132 :: u133 :: u134 :: u135 :: u136 :: u137 :: u138 :: u139 :: u140 :: u141 :: u142 :: u143 :: u144 :: u145 :: u146 :: u147 :: u148 :: u149 :: u150 :: u151 :: u152 :: u153 :: u154 :: u155 :: u156 :: u157 :: u158 :: u159 :: u160 :: u161 :: u162 :: u163 :: u164 :: u165 :: u166 :: u167 :: u168 :: u169 :: u170 :: u171 :: u172 :: u173 :: u174 :: u175 :: u176 :: u177 :: u178 :: u179 :: u180 :: u181 :: u182 :: u183 :: u184 :: u185 :: u186 :: u187 :: u188 :: u189 :: u190 :: u191 :: u192 :: u193 :: u194 :: u195 :: u196 :: u197 :: u198 :: u199 :: u200 :: u201 :: u202 :: u203 :: u204 :: u205 :: u206 :: u207 :: u208 :: u209 :: u210 :: u211 :: u212 :: u213 :: u214 :: u215 :: u216 :: u217 :: u218 :: u219 :: u220 :: u221 :: u222 :: u223 :: u224 :: u225 :: u226 :: u227 :: u228 :: u229 :: u230 :: u231 :: u232 :: u233 :: u234 :: u235 :: u236 :: u237 :: u238 :: u239 :: u240 :: u241 :: u242 :: u243 :: u244 :: u245 :: u246 :: u247 :: u248 :: u249 :: u250 :: u251 :: u252 :: u253 :: u254 :: u255 :: u256 :: u257 :: u258 :: u259 :: u260 :: u261 :: u262 :: u263 :: u264 :: u265 :: u266 :: u267 :: u268 :: u269 :: u270 :: u271 :: u272 :: u273 :: u274 :: u275 :: u276 :: u277 :: u278 :: u279 :: u280 :: u281 :: u282 :: u283 :: u284 :: u285 :: u286 :: u287 :: u288 :: u289 :: u290 :: u291 :: u292 :: u293 :: u294 :: u295 :: u296 :: u297 :: u298 :: u299 :: u300 :: u301 :: u302 :: u303 :: u304 :: []), defers := [] } W := by
  have g6 : W.cell? ⟨ib, 6, none⟩ = some (.bool i.b6) := cell_at B.out.box rfl
  have b1 : ib < W.heap.size := lt_of_block B.out.box
  replace h8 := hide h8
  replace h9 := hide h9
  dsimp only [Yba.f3, Option.getD, tl, hd] at hK ⊢
  subst hQ
  obtain ⟨vb, hvb⟩ : ∃ vb, vb = Value.agg (idC i.a3) := ⟨_, rfl⟩
  have HVB := hide hvb
  clear hvb
  obtain ⟨W1, hW1⟩ : ∃ W1, W1 = W.alloc (.cells (KC ⟨#[]⟩ 0) 37) := ⟨_, rfl⟩
  obtain ⟨kk, hkk⟩ : ∃ kk, kk = W.heap.size := ⟨_, rfl⟩
  have GW : Hid (Grew W W1) := by rw [hW1]; exact (Grew.refl W).alloc _
  have HK0 : Hid (W1.heap[kk]? = some (.cells (KC ⟨#[]⟩ 0) 37)) := by rw [hW1, hkk]; exact hp_alloc_eq _ _
  have LK : Hid (W.heap.size ≤ kk) := by rw [hkk]; exact Nat.le_refl _
  go_upto_region 11 with fail
  rw [← hW1, ← hkk]
  have g6' : W1.cell? ⟨ib, 6, none⟩ = some (.bool i.b6) := cell_at (GW.out.blk B.out.box) rfl
  clear hW1 hkk g6 b1
  cases h6 : i.b6 with
  | true =>
    rw [h6] at g6'
    have e1 := hide (show i.tS = i.tR by simp [Inp.tS, h6])
    have e2 := hide (show i.kS = i.a3 by simp [Inp.kS, h6])
    go_upto_region 14 with (first | (refine wpList_load_as (by rfl) 30 (.tmp 7) rfl kb 0 rfl (idC i.a3).toList _ (range_block (GW.out.blk B.out.key)) Yba.underlying30 rfl info30 (.agg (idC i.a3)) rfl ?_) | (refine wpList_store_all rfl 37 (.tmp 10) (.tmp 79) rfl kk (KC i.tR i.a3) (KC ⟨#[]⟩ 0) 37 rfl rfl HK0.out rfl info37 (one_kc _ _) ?_; intro w2 hk2 kp2))
    simp only [Act.put]
    have hg2 : Grew W w2 := Grew.kept GW.out kp2 LK.out
    rw [← e1.out, ← e2.out] at hk2
    apply stage11 (ok := ok) (B := hide (B.out.ext (hg2))) (h8 := h8.out.ext (hg2)) (h9 := h9.out.ext (hg2)) (hkk := hk2) (hQ := rfl) (hK := by assumption)
  | false =>
    rw [h6] at g6'
    have e1 := hide (show i.tS = typS i.a1 by simp [Inp.tS, h6])
    have e2 := hide (show i.kS = i.a4 by simp [Inp.kS, h6])
    have HS : Hid (∀ w', Grew W w' → (∃ C, w'.heap[kk]? = some (.cells C 37) ∧ C.size = 33) → (w'.cell? ⟨ib, 1, none⟩ = some (.int .u8 i.a1) ∧ w'.cell? ⟨ib, 4, none⟩ = some (.int .u8 i.a4) ∧ Grew W w' ∧ ∃ C, w'.heap[kk]? = some (.cells C 37) ∧ C.size = 33)) := by
      intro w' hg hc
      have hh := hg.blk B.out.box
      exact ⟨cell_at hh rfl, cell_at hh rfl, hg, hc⟩
    go_upto_region 13 with fail
    refine wp_region_held_drew (S := fun w' => w'.cell? ⟨ib, 1, none⟩ = some (.int .u8 i.a1) ∧ w'.cell? ⟨ib, 4, none⟩ = some (.int .u8 i.a4) ∧ Grew W w' ∧ ∃ C, w'.heap[kk]? = some (.cells C 37) ∧ C.size = 33) (by kernel_rfl) ?_ (fun hHeld => ?_)
    · exact HS.out _ GW.out.drew ⟨_, HK0.out, rfl⟩
    refine wpAnyH_take (i := 0) (oi := { dst := some 80, op := Op.fieldAddr 25 (Operand.tmp 1) 1, type := 0, pos := "zz_law_s5814b.go:86", after := #[], guard := none }) (v := ?_) rfl (by kernel_rfl) (by kernel_rfl) (by kernel_rfl) (fun _ _ _ h => h) (Or.inl ⟨by rfl, ?_⟩) hHeld ?_
    rotate_left
    · intro w hSw
      (try dsimp only at hSw)
      go_simp
      try with_reducible rfl
    try simp only [Act.put, List.setIfInBounds_toArray, List.set_cons_zero, List.set_cons_succ]
    refine wpAnyH_take (i := 1) (oi := { dst := some 81, op := Op.load 5 (Operand.tmp 80), type := 5, pos := "zz_law_s5814b.go:86", after := #[{ on := 0, ground := Ground.data }], guard := none }) (v := ?_) rfl (by kernel_rfl) (by kernel_rfl) (by kernel_rfl) (fun _ _ _ h => h) (Or.inl ⟨by rfl, ?_⟩) hHeld ?_
    rotate_left
    · intro w hSw
      (try dsimp only at hSw)
      go_simp
      try with_reducible rfl
    try simp only [Act.put, List.setIfInBounds_toArray, List.set_cons_zero, List.set_cons_succ]
    refine wpAnyH_take (i := 3) (oi := { dst := some 83, op := Op.fieldAddr 25 (Operand.tmp 1) 4, type := 0, pos := "zz_law_s5814b.go:86", after := #[], guard := none }) (v := ?_) rfl (by kernel_rfl) (by kernel_rfl) (by kernel_rfl) (fun _ _ _ h => h) (Or.inl ⟨by rfl, ?_⟩) hHeld ?_
    rotate_left
    · intro w hSw
      (try dsimp only at hSw)
      go_simp
      try with_reducible rfl
    try simp only [Act.put, List.setIfInBounds_toArray, List.set_cons_zero, List.set_cons_succ]
    refine wpAnyH_take (i := 4) (oi := { dst := some 84, op := Op.load 5 (Operand.tmp 83), type := 5, pos := "zz_law_s5814b.go:86", after := #[{ on := 3, ground := Ground.data }], guard := none }) (v := ?_) rfl (by kernel_rfl) (by kernel_rfl) (by kernel_rfl) (fun _ _ _ h => h) (Or.inl ⟨by rfl, ?_⟩) hHeld ?_
    rotate_left
    · intro w hSw
      (try dsimp only at hSw)
      go_simp
      try with_reducible rfl
    try simp only [Act.put, List.setIfInBounds_toArray, List.set_cons_zero, List.set_cons_succ]
    refine wpAnyH_take (i := 5) (oi := { dst := some 85, op := Op.build 30 #[(0, Operand.tmp 84)], type := 30, pos := "zz_law_s5814b.go:86", after := #[{ on := 4, ground := Ground.data }], guard := none }) (v := ?_) rfl (by kernel_rfl) (by kernel_rfl) (by kernel_rfl) (fun _ _ _ h => h) (Or.inl ⟨by rfl, ?_⟩) hHeld ?_
    rotate_left
    · intro w hSw
      (try dsimp only at hSw)
      go_simp
      try with_reducible rfl
    try simp only [Act.put, List.setIfInBounds_toArray, List.set_cons_zero, List.set_cons_succ]
    refine wpAnyH_ready (rs := [2]) (by kernel_rfl) (by simp) ?_
    refine AllReadyH.cons (o := { dst := some 82, op := Op.call { callee := Callee.value (Operand.func 4), args := #[Operand.tmp 81], argTypes := #[5] }, type := 27, pos := "zz_law_s5814b.go:86", after := #[{ on := 1, ground := Ground.data }], guard := none }) rfl (fun K hK => ?_) AllReadyH.nil
    go_simp
    refine (typ_any _ _ ok.out.a1.1 ok.out.a1.2).mono ?_
    rintro e w' ⟨rfl, rfl⟩
    go_wp2_with fail
    refine hK.out _ _ ?_ (fun hHeld => ?_)
    · exact hHeld
    clear hK K
    try simp only [Act.put, List.setIfInBounds_toArray, List.set_cons_zero, List.set_cons_succ]
    refine wpAnyH_take (i := 6) (oi := { dst := some 86, op := Op.build 37 #[(0, Operand.tmp 82), (1, Operand.tmp 85)], type := 37, pos := "zz_law_s5814b.go:86", after := #[{ on := 2, ground := Ground.data }, { on := 5, ground := Ground.data }], guard := none }) (v := ?_) rfl (by kernel_rfl) (by kernel_rfl) (by kernel_rfl) (fun _ _ _ h => h) (Or.inl ⟨by rfl, ?_⟩) hHeld ?_
    rotate_left
    · intro w hSw
      (try dsimp only at hSw)
      go_simp
      try with_reducible rfl
    try simp only [Act.put, List.setIfInBounds_toArray, List.set_cons_zero, List.set_cons_succ]
    refine wpAnyH_ready (rs := [7]) (by kernel_rfl) (by simp) ?_
    refine AllReadyH.cons (o := { dst := none, op := Op.store 37 (Operand.tmp 10) (Operand.tmp 86), type := 0, pos := "zz_law_s5814b.go:86", after := #[{ on := 6, ground := Ground.data }, { on := 2, ground := Ground.chain }, { on := 0, ground := Ground.phase }, { on := 1, ground := Ground.phase }, { on := 2, ground := Ground.phase }, { on := 3, ground := Ground.phase }, { on := 4, ground := Ground.phase }, { on := 5, ground := Ground.phase }, { on := 6, ground := Ground.phase }], guard := none }) rfl (fun K hK => ?_) AllReadyH.nil
    rw [if_pos (by rfl)]
    obtain ⟨Ck, hCk, hCs⟩ := hHeld.2.2.2
    refine wp_store_all 37 (.tmp 10) (.tmp 86) rfl kk (KC (typS i.a1) i.a4) Ck 37 rfl rfl hCk hCs info37 (one_kc _ _) ?_
    intro w2 hk2 kp2
    have hg2 : Grew W w2 := Grew.kept hHeld.2.2.1 kp2 LK.out
    refine hK.out _ _ ?_ (fun hHeld => ?_)
    · exact HS.out _ hg2 ⟨_, hk2, rfl⟩
    clear hK K
    simp only [Act.put]
    refine wpAnyH_done (by kernel_rfl) ?_ _
    go_upto_region 14 with fail
    rw [← e1.out, ← e2.out] at hk2
    apply stage11 (ok := ok) (B := hide (B.out.ext (hg2))) (h8 := h8.out.ext (hg2)) (h9 := h9.out.ext (hg2)) (hkk := hk2) (hQ := rfl) (hK := by assumption)

set_option maxRecDepth 100000 in
set_option maxHeartbeats 1600000 in
theorem stage8 (i : Inp) (ok : Hid i.Ok) (w0 W : World) (ib kb : Nat) (B : Hid (Base i w0 ib kb W)) (s8 : Value) (h8 : Made W s8 i.tR i.q13 i.v9 i.v10 i.xs9 i.xs10) (vin u9 u10 u11 u12 u13 u14 u15 u16 u17 u18 u19 u20 u21 u22 u23 u24 u25 u26 u27 u28 u29 u30 u31 u32 u33 u34 u35 u36 u37 u38 u39 u40 u41 u42 u43 u44 u45 u46 u47 u48 u49 u50 u51 u52 u53 u54 u55 u56 u57 u58 u59 u60 u61 u62 u63 u64 u65 u66 u67 u68 u69 u70 u71 u72 u73 u74 u75 u76 u77 u78 u79 u80 u81 u82 u83 u84 u85 u86 u87 u88 u89 u90 u91 u92 u93 u94 u95 u96 u97 u98 u99 u100 u101 u102 u103 u104 u105 u106 u107 u108 u109 u110 u111 u112 u113 u114 u115 u116 u117 u118 u119 u120 u121 u122 u123 u124 u125 u126 u127 u128 u129 u130 u131 u132 u133 u134 u135 u136 u137 u138 u139 u140 u141 u142 u143 u144 u145 u146 u147 u148 u149 u150 u151 u152 u153 u154 u155 u156 u157 u158 u159 u160 u161 u162 u163 u164 u165 u166 u167 u168 u169 u170 u171 u172 u173 u174 u175 u176 u177 u178 u179 u180 u181 u182 u183 u184 u185 u186 u187 u188 u189 u190 u191 u192 u193 u194 u195 u196 u197 u198 u199 u200 u201 u202 u203 u204 u205 u206 u207 u208 u209 u210 u211 u212 u213 u214 u215 u216 u217 u218 u219 u220 u221 u222 u223 u224 u225 u226 u227 u228 u229 u230 u231 u232 u233 u234 u235 u236 u237 u238 u239 u240 u241 u242 u243 u244 u245 u246 u247 u248 u249 u250 u251 u252 u253 u254 u255 u256 u257 u258 u259 u260 u261 u262 u263 u264 u265 u266 u267 u268 u269 u270 u271 u272 u273 u274 u275 u276 u277 u278 u279 u280 u281 u282 u283 u284 u285 u286 u287 u288 u289 u290 u291 u292 u293 u294 u295 u296 u297 u298 u299 u300 u301 u302 u303 u304 : Value) (Q : Exit → Act → World → Prop) (hQ : Q = bodyPost Yba.prog Yba.f3 fun e w' => e = .returned (.bool true) ∧ Below w0.heap.size w0 w')
    (K : Act → World → Prop) (hK : ∀ a w, (tl 9 (Yba.f3.body.getD .skip)).wp Yba.prog Q a w → K a w) :
    (hd (tl 8 (Yba.f3.body.getD .skip))).wp Yba.prog (Exit.then K Q) { tmps := List.toArray (vin :: .pointer (some ⟨ib, 0, none⟩) :: .bool false :: .int .i64 i.H :: .int .i64 i.L :: .int .i64 i.A :: .string i.tR :: .pointer (some ⟨kb, 0, none⟩) :: s8 :: u9 :: u10 :: u11 :: u12 :: u13 :: u14 :: u15 :: u16 :: u17 :: u18 :: u19 :: u20 :: u21 :: u22 :: u23 :: u24 :: u25 :: u26 :: u27 :: u28 :: u29 :: u30 :: u31 :: u32 :: u33 :: u34 :: u35 :: u36 :: u37 :: u38 :: u39 :: u40 :: u41 :: u42 :: u43 :: u44 :: u45 :: u46 :: u47 :: u48 :: u49 :: u50 :: u51 :: u52 :: u53 :: u54 :: u55 :: u56 :: u57 :: u58 :: u59 :: u60 :: u61 :: u62 :: u63 :: u64 :: u65 :: u66 :: u67 :: u68 :: u69 :: u70 :: u71 :: u72 :: u73 :: u74 :: u75 :: u76 :: u77 :: u78 :: u79 :: u80 :: u81 :: u82 :: u83 :: u84 :: u85 :: u86 :: u87 :: u88 :: u89 :: u90 :: u91 :: u92 :: u93 :: u94 :: u95 :: u96 :: u97 :: u98 :: u99 :: u100 :: u101 :: u102 :: u103 :: u104 :: u105 :: u106 :: u107 :: u108 :: u109 :: u110 :: u111 :: u112 :: u113 :: u114 :: u115 :: u116 :: u117 :: u118 :: u119 :: u120 :: u121 :: u122 :: u123 :: u124 :: u125 :: u126 :: u127 :: u128 :: u129 :: u130 :: u131 :: u132 :: u133 :: u134 :: u135 :: u136 :: u137 :: u138 :: u139 :: u140 :: u141 :: u142 :: u143 :: u144 :: u145 :: u146 :: u147 :: u148 :: u149 :: u150 :: u151 :: u152 :: u153 :: u154 :: u155 :: u156 :: u157 :: u158 :: u159 :: u160 :: u161 :: u162 :: u163 :: u164 :: u165 :: u166 :: u167 :: u168 :: u169 :: u170 :: u171 :: u172 :: u173 :: u174 :: u175 :: u176 :: u177 :: u178 :: u179 :: u180 :: u181 :: u182 :: u183 :: u184 :: u185 :: u186 :: u187 :: u188 :: u189 :: u190 :: u191 :: u192 :: u193 :: u194 :: u195 :: u196 :: u197 :: u198 :: u199 :: u200 :: u201 :: u202 :: u203 :: u204 :: u205 :: u206 :: u207 :: u208 :: u209 :: u210 :: u211 :: u212 :: u213 :: u214 :: u215 :: u216 :: u217 :: u218 :: u219 :: u220 :: u221 :: u222 :: u223 :: u224 :: u225 :: u226 :: u227 :: u228 :: u229 :: u230 :: u231 :: u232 :: u233 :: u234 :: u235 :: u236 :: u237 :: u238 :: u239 :: u240 :: u241 :: u242 :: u243 :: u244 :: u245 :: u246 :: u247 :: u248 :: u249 :: u250 :: u251 :: u252 :: u253 :: u254 :: u255 :: u256 :: u257 :: u258 :: u259 :: u260 :: u261 :: u262 :: u263 :: u264 :: u265 :: u266 :: u267 :: u268 :: u269 :: u270 :: u271 :: u272 :: u273 :: u274 :: u275 :: u276 :: u277 :: u278 :: u279 :: u280 :: u281 :: u282 :: u283 :: u284 :: u285 :: u286 :: u287 :: u288 :: u289 :: u290 :: u291 :: u292 :: u293 :: u294 :: u295 :: u296 :: u297 :: u298 :: u299 :: u300 :: u301 :: u302 :: u303 :: u304 :: []), defers := [] } W := by
  replace h8 := hide h8
  dsimp only [Yba.f3, Option.getD, tl, hd] at hK ⊢
  subst hQ
  have HS : Hid (∀ w', Grew W w' → (w'.cell? ⟨ib, 9, none⟩ = some (.slice i.p9 i.l9 i.c9) ∧ w'.cell? ⟨ib, 13, none⟩ = some (.int .u64 i.q13) ∧ w'.cell? ⟨ib, 10, none⟩ = some (.slice i.p10 i.l10 i.c10) ∧ Grew W w')) := by
    intro w' hg
    have hh := hg.blk B.out.box
    exact ⟨cell_at hh rfl, cell_at hh rfl, cell_at hh rfl, hg⟩
  refine wp_region_held_drew (S := fun w' => w'.cell? ⟨ib, 9, none⟩ = some (.slice i.p9 i.l9 i.c9) ∧ w'.cell? ⟨ib, 13, none⟩ = some (.int .u64 i.q13) ∧ w'.cell? ⟨ib, 10, none⟩ = some (.slice i.p10 i.l10 i.c10) ∧ Grew W w') (by kernel_rfl) ?_ (fun hHeld => ?_)
  · exact HS.out _ (Grew.drew (Grew.refl _))
  refine wpAnyH_take (i := 0) (oi := { dst := some 64, op := Op.move (Operand.tmp 6), type := 27, pos := "zz_law_s5814b.go:80", after := #[], guard := none }) (v := ?_) rfl (by kernel_rfl) (by kernel_rfl) (by kernel_rfl) (fun _ _ _ h => h) (Or.inl ⟨by rfl, ?_⟩) hHeld ?_
  rotate_left
  · intro w hSw
    (try dsimp only at hSw)
    go_simp
    try with_reducible rfl
  try simp only [Act.put, List.setIfInBounds_toArray, List.set_cons_zero, List.set_cons_succ]
  refine wpAnyH_take (i := 1) (oi := { dst := some 65, op := Op.fieldAddr 25 (Operand.tmp 1) 9, type := 0, pos := "zz_law_s5814b.go:80", after := #[], guard := none }) (v := ?_) rfl (by kernel_rfl) (by kernel_rfl) (by kernel_rfl) (fun _ _ _ h => h) (Or.inl ⟨by rfl, ?_⟩) hHeld ?_
  rotate_left
  · intro w hSw
    (try dsimp only at hSw)
    go_simp
    try with_reducible rfl
  try simp only [Act.put, List.setIfInBounds_toArray, List.set_cons_zero, List.set_cons_succ]
  refine wpAnyH_take (i := 2) (oi := { dst := some 66, op := Op.load 22 (Operand.tmp 65), type := 22, pos := "zz_law_s5814b.go:80", after := #[{ on := 1, ground := Ground.data }], guard := none }) (v := ?_) rfl (by kernel_rfl) (by kernel_rfl) (by kernel_rfl) (fun _ _ _ h => h) (Or.inl ⟨by rfl, ?_⟩) hHeld ?_
  rotate_left
  · intro w hSw
    (try dsimp only at hSw)
    go_simp
    try with_reducible rfl
  try simp only [Act.put, List.setIfInBounds_toArray, List.set_cons_zero, List.set_cons_succ]
  refine wpAnyH_take (i := 4) (oi := { dst := some 68, op := Op.fieldAddr 25 (Operand.tmp 1) 13, type := 0, pos := "zz_law_s5814b.go:80", after := #[], guard := none }) (v := ?_) rfl (by kernel_rfl) (by kernel_rfl) (by kernel_rfl) (fun _ _ _ h => h) (Or.inl ⟨by rfl, ?_⟩) hHeld ?_
  rotate_left
  · intro w hSw
    (try dsimp only at hSw)
    go_simp
    try with_reducible rfl
  try simp only [Act.put, List.setIfInBounds_toArray, List.set_cons_zero, List.set_cons_succ]
  refine wpAnyH_take (i := 5) (oi := { dst := some 69, op := Op.load 23 (Operand.tmp 68), type := 23, pos := "zz_law_s5814b.go:80", after := #[{ on := 4, ground := Ground.data }], guard := none }) (v := ?_) rfl (by kernel_rfl) (by kernel_rfl) (by kernel_rfl) (fun _ _ _ h => h) (Or.inl ⟨by rfl, ?_⟩) hHeld ?_
  rotate_left
  · intro w hSw
    (try dsimp only at hSw)
    go_simp
    try with_reducible rfl
  try simp only [Act.put, List.setIfInBounds_toArray, List.set_cons_zero, List.set_cons_succ]
  refine wpAnyH_take (i := 6) (oi := { dst := some 70, op := Op.fieldAddr 25 (Operand.tmp 1) 10, type := 0, pos := "zz_law_s5814b.go:80", after := #[], guard := none }) (v := ?_) rfl (by kernel_rfl) (by kernel_rfl) (by kernel_rfl) (fun _ _ _ h => h) (Or.inl ⟨by rfl, ?_⟩) hHeld ?_
  rotate_left
  · intro w hSw
    (try dsimp only at hSw)
    go_simp
    try with_reducible rfl
  try simp only [Act.put, List.setIfInBounds_toArray, List.set_cons_zero, List.set_cons_succ]
  refine wpAnyH_take (i := 7) (oi := { dst := some 71, op := Op.load 22 (Operand.tmp 70), type := 22, pos := "zz_law_s5814b.go:80", after := #[{ on := 6, ground := Ground.data }], guard := none }) (v := ?_) rfl (by kernel_rfl) (by kernel_rfl) (by kernel_rfl) (fun _ _ _ h => h) (Or.inl ⟨by rfl, ?_⟩) hHeld ?_
  rotate_left
  · intro w hSw
    (try dsimp only at hSw)
    go_simp
    try with_reducible rfl
  try simp only [Act.put, List.setIfInBounds_toArray, List.set_cons_zero, List.set_cons_succ]
  refine wpAnyH_ready (rs := [3]) (by kernel_rfl) (by simp) ?_
  refine AllReadyH.cons (o := { dst := some 67, op := Op.call { callee := Callee.value (Operand.func 5), args := #[Operand.tmp 66], argTypes := #[22] }, type := 22, pos := "zz_law_s5814b.go:80", after := #[{ on := 2, ground := Ground.data }], guard := none }) rfl (fun K hK => ?_) AllReadyH.nil
  go_simp
  refine (clone_any ok.out.m9 (hHeld.2.2.2.isB B.out.s9)).mono ?_
  rintro e w' ⟨u1, rfl, hn1, hI1, hB1⟩
  obtain ⟨ua1, ul1, uc1, rfl⟩ := hI1.form
  have hh1 := Grew.trans hHeld.2.2.2 hB1
  have HG1 : Hid (Grew _ _) := hB1
  have HI1 := hide hI1
  have HN1 := hide hn1
  clear hI1 hn1 hB1
  go_wp2_with fail
  refine hK.out _ _ ?_ (fun hHeld => ?_)
  · exact HS.out _ hh1
  clear hK K
  try simp only [Act.put, List.setIfInBounds_toArray, List.set_cons_zero, List.set_cons_succ]
  refine wpAnyH_ready (rs := [8]) (by kernel_rfl) (by simp) ?_
  refine AllReadyH.cons (o := { dst := some 72, op := Op.call { callee := Callee.value (Operand.func 5), args := #[Operand.tmp 71], argTypes := #[22] }, type := 22, pos := "zz_law_s5814b.go:80", after := #[{ on := 7, ground := Ground.data }, { on := 3, ground := Ground.chain }], guard := none }) rfl (fun K hK => ?_) AllReadyH.nil
  go_simp
  refine (clone_any ok.out.m10 (hHeld.2.2.2.isB B.out.s10)).mono ?_
  rintro e w' ⟨u2, rfl, hn2, hI2, hB2⟩
  obtain ⟨ua2, ul2, uc2, rfl⟩ := hI2.form
  have hh2 := Grew.trans hHeld.2.2.2 hB2
  have HG2 : Hid (Grew _ _) := hB2
  have HI2 := hide hI2
  have HN2 := hide hn2
  clear hI2 hn2 hB2
  go_wp2_with fail
  refine hK.out _ _ ?_ (fun hHeld => ?_)
  · exact HS.out _ hh2
  clear hK K
  try simp only [Act.put, List.setIfInBounds_toArray, List.set_cons_zero, List.set_cons_succ]
  refine wpAnyH_take (i := 9) (oi := { dst := some 73, op := Op.build 35 #[(0, Operand.tmp 64), (1, Operand.tmp 67), (4, Operand.tmp 69), (5, Operand.tmp 72)], type := 35, pos := "zz_law_s5814b.go:80", after := #[{ on := 0, ground := Ground.data }, { on := 3, ground := Ground.data }, { on := 5, ground := Ground.data }, { on := 8, ground := Ground.data }], guard := none }) (v := ?_) rfl (by kernel_rfl) (by kernel_rfl) (by kernel_rfl) (fun _ _ _ h => h) (Or.inl ⟨by rfl, ?_⟩) hHeld ?_
  rotate_left
  · intro w hSw
    (try dsimp only at hSw)
    go_simp
    try with_reducible rfl
  try simp only [Act.put, List.setIfInBounds_toArray, List.set_cons_zero, List.set_cons_succ]
  refine wpAnyH_ready (rs := [10]) (by kernel_rfl) (by simp) ?_
  refine AllReadyH.cons (o := { dst := some 74, op := Op.box 35 (Operand.tmp 73), type := 31, pos := "zz_law_s5814b.go:80", after := #[{ on := 9, ground := Ground.data }], guard := none }) rfl (fun K hK => ?_) AllReadyH.nil
  go_simp
  refine hK.out _ _ ?_ (fun hHeld => ?_)
  · exact HS.out _ (Grew.alloc hHeld.2.2.2 _)
  clear hK K
  try simp only [Act.put, List.setIfInBounds_toArray, List.set_cons_zero, List.set_cons_succ]
  refine wpAnyH_take (i := 11) (oi := { dst := some 9, op := Op.assign (Operand.tmp 74), type := 31, pos := "zz_law_s5814b.go:80", after := #[{ on := 10, ground := Ground.data }, { on := 8, ground := Ground.chain }, { on := 0, ground := Ground.phase }, { on := 1, ground := Ground.phase }, { on := 2, ground := Ground.phase }, { on := 3, ground := Ground.phase }, { on := 4, ground := Ground.phase }, { on := 5, ground := Ground.phase }, { on := 6, ground := Ground.phase }, { on := 7, ground := Ground.phase }, { on := 8, ground := Ground.phase }, { on := 9, ground := Ground.phase }, { on := 10, ground := Ground.phase }], guard := none }) (v := ?_) rfl (by kernel_rfl) (by kernel_rfl) (by kernel_rfl) (fun _ _ _ h => h) (Or.inl ⟨by rfl, ?_⟩) hHeld ?_
  rotate_left
  · intro w hSw
    (try dsimp only at hSw)
    go_simp
    try with_reducible rfl
  try simp only [Act.put, List.setIfInBounds_toArray, List.set_cons_zero, List.set_cons_succ]
  refine wpAnyH_done (by kernel_rfl) ?_ _
  go_upto_region 10 with fail
  apply stage9 (ok := ok) (B := hide (B.out.ext (hh2.alloc _))) (h8 := h8.out.ext (hh2.alloc _)) (h9 := ⟨_, _, _, rfl, hp_alloc_eq _ _, HN1.out, HN2.out, (HG2.out.alloc _).isB HI1.out, ((Grew.refl _).alloc _).isB HI2.out⟩) (hQ := rfl) (hK := by assumption)
end Go.Proofs.Ybulkdpjq
