/-
  The law at an address of 4 bytes.
-/
import Derived.Test.YbulkdphmDoorRows
import Derived.WalkKit
import Derived.ProofKit
import Derived.OpenShut
import Derived.WalkLawsBesides
import Derived.BigQuiet
import Derived.Laws.BitsAllLaws
import Derived.Laws.StructEq
import Derived.Outline
import Derived.Deep.RegionWith
import Derived.Deep.RegionHeld3
import Derived.Deep.DeepCutAuto
import Derived.Deep.DrawnRows
import Derived.Handy
import Derived.Laws.ResultCell
import Derived.Test.YbulkdphmDoorLawM
namespace Go.Proofs.YbulkdphmDoor
open Go.ChangeShapes Go.WideShapes Go.ChangeAt Go.RowKit
open Go.ChangeMaps (setBlock)
set_option linter.unusedVariables false
set_option linter.unusedSimpArgs false

open Go.Lib (itoa decDigits)

/-- A world in which of W's blocks the Var alone may have turned, and has not. -/
structure Gd (W : World) (wb : Nat) (w' : World) : Prop where
  kept : Kept (fun x => x = wb) W w'
  var : w'.heap[wb]? = some (.cells #[.string ⟨#[]⟩, .string ⟨#[]⟩, .bool false] 27)
theorem keep1 {w : World} {wb bb o : Nat} {a b c x : Value} (hne : bb ≠ wb) (h : w.cell? ⟨bb, o, none⟩ = some x) : (((w.setCell ⟨wb, 0, none⟩ a).setCell ⟨wb, 1, none⟩ b).setCell ⟨wb, 2, none⟩ c).cell? ⟨bb, o, none⟩ = some x := by
  rw [World.cell?_setCell_other _ _ _ _ (by simp [hne]), World.cell?_setCell_other _ _ _ _ (by simp [hne]), World.cell?_setCell_other _ _ _ _ (by simp [hne])]
  exact h
theorem itoa_nat (v : Int) (h0 : 0 ≤ v) : itoa v = decDigits v.toNat := by
  unfold Lib.itoa
  rw [if_neg (by omega)]
theorem itoa_size (v : Int) (h0 : 0 ≤ v) (h1 : v < 18446744073709551616) : (⟨(itoa v).toArray⟩ : ByteArray).size ≤ 20 := by
  rw [itoa_nat v h0]
  show (decDigits v.toNat).toArray.size ≤ 20
  rw [List.size_toArray]
  exact dec_len _ (by omega)
theorem ba_app (a b : List UInt8) : (⟨a.toArray⟩ : ByteArray) ++ ⟨b.toArray⟩ = ⟨(a ++ b).toArray⟩ := by
  apply ByteArray.ext
  simp
theorem txt4_itoa (v0 v1 v2 v3 : Int) (q0 : 0 ≤ v0 ∧ v0 < 256) (q1 : 0 ≤ v1 ∧ v1 < 256) (q2 : 0 ≤ v2 ∧ v2 < 256) (q3 : 0 ≤ v3 ∧ v3 < 256) :
    (⟨(txt4 (lo4 v0.toNat v1.toNat v2.toNat v3.toNat)).toArray⟩ : ByteArray) = (⟨(itoa v0).toArray⟩ : ByteArray) ++ ⟨#[46]⟩ ++ ⟨(itoa v1).toArray⟩ ++ ⟨#[46]⟩ ++ ⟨(itoa v2).toArray⟩ ++ ⟨#[46]⟩ ++ ⟨(itoa v3).toArray⟩ := by
  have e46 : (⟨#[46]⟩ : ByteArray) = ⟨([46] : List UInt8).toArray⟩ := rfl
  rw [e46, itoa_nat v0 q0.1, itoa_nat v1 q1.1, itoa_nat v2 q2.1, itoa_nat v3 q3.1]
  simp only [ba_app]
  unfold txt4
  have e0 : lo4 v0.toNat v1.toNat v2.toNat v3.toNat / 16777216 % 256 = v0.toNat := by unfold lo4; omega
  have e1 : lo4 v0.toNat v1.toNat v2.toNat v3.toNat / 65536 % 256 = v1.toNat := by unfold lo4; omega
  have e2 : lo4 v0.toNat v1.toNat v2.toNat v3.toNat / 256 % 256 = v2.toNat := by unfold lo4; omega
  have e3 : lo4 v0.toNat v1.toNat v2.toNat v3.toNat % 256 = v3.toNat := by unfold lo4; omega
  rw [e0, e1, e2, e3]

set_option maxRecDepth 100000 in
set_option maxHeartbeats 3200000 in
theorem st13_64_4 (w0 W : World) (a4 a6 : Addr) (bb kb wb n cb ck s L o1 c1 o2 c2 r : Nat) (xs : List Int) (M : Hid (Mid w0 W a4 a6 bb kb wb n cb s L o1 c1 o2 c2 r xs)) (hx : xs.getD 0 0 = 64) (h4 : L = 4) (u0 u1 u2 u3 u4 u5 u6 u7 u10 u11 u20 u21 u22 u23 u24 u25 u26 u27 u28 u29 u30 u31 u32 u33 u34 u35 u36 u37 u38 u39 u40 u41 u42 u43 u44 u45 u46 u47 u48 u49 u50 u51 u52 u53 u54 u55 u56 u57 u58 u59 u60 u61 u62 u63 u64 u65 u66 u67 u68 u69 u70 u71 u72 u73 u74 u75 u76 u77 u78 u79 u80 u81 u82 u83 u84 u85 u86 u87 u88 u89 u90 u91 u92 u93 u94 u95 u96 u97 u98 u99 u100 u101 u102 u103 u104 u105 u106 u107 u108 u109 u110 u111 u112 u113 u114 u115 u116 u117 u118 u119 u120 u121 u122 u123 u124 u125 u126 u127 u128 u129 u130 u131 u132 u133 u134 u135 u136 u137 u138 u139 u140 u141 u142 u143 u144 u145 u146 u147 u148 u149 u150 u151 u152 u153 u154 u155 u156 u157 u158 u159 u160 u161 u162 u163 u164 u165 u166 u167 u168 u169 u170 u171 u172 u173 u174 u175 u176 u177 u178 u179 u180 u181 u182 u183 u184 u185 u186 u187 u188 u189 u190 u191 u192 u193 u194 u195 u196 u197 u198 u199 u200 u201 u202 u203 u204 u205 u206 u207 u208 u209 u210 u211 u212 u213 u214 u215 u216 u217 u218 u219 u220 u221 u222 u223 u224 u225 u226 u227 u228 u229 u230 u231 u232 u233 u234 u235 u236 u237 u238 u239 u240 u241 u242 u243 u244 u245 u246 u247 u248 u249 u250 u251 u252 u253 u254 u255 u256 : Value) (Q : Exit → Act → World → Prop) (hQ : Q = bodyPost Ybad.prog Ybad.f3 fun e w' => e = .returned (.bool true) ∧ Below w0.heap.size w0 w')
    (K : Act → World → Prop) (hK : ∀ a w, (tl 14 (Ybad.f3.body.getD .skip)).wp Ybad.prog Q a w → K a w) :
    (hd (tl 13 (Ybad.f3.body.getD .skip))).wp Ybad.prog (Exit.then K Q) { tmps := List.toArray (u0 :: u1 :: u2 :: u3 :: u4 :: u5 :: u6 :: u7 :: .int .u8 64 :: .slice (some ⟨bb, 0, none⟩) n cb :: u10 :: u11 :: .slice (some ⟨kb, 0, none⟩) n ck :: .int .u8 64 :: .slice (some ⟨bb, o1, none⟩) L c1 :: .slice (some ⟨bb, o2, none⟩) r c2 :: .bool true :: .pointer (some ⟨wb, 0, none⟩) :: .bool false :: .bool true :: u20 :: u21 :: u22 :: u23 :: u24 :: u25 :: u26 :: u27 :: u28 :: u29 :: u30 :: u31 :: u32 :: u33 :: u34 :: u35 :: u36 :: u37 :: u38 :: u39 :: u40 :: u41 :: u42 :: u43 :: u44 :: u45 :: u46 :: u47 :: u48 :: u49 :: u50 :: u51 :: u52 :: u53 :: u54 :: u55 :: u56 :: u57 :: u58 :: u59 :: u60 :: u61 :: u62 :: u63 :: u64 :: u65 :: u66 :: u67 :: u68 :: u69 :: u70 :: u71 :: u72 :: u73 :: u74 :: u75 :: u76 :: u77 :: u78 :: u79 :: u80 :: u81 :: u82 :: u83 :: u84 :: u85 :: u86 :: u87 :: u88 :: u89 :: u90 :: u91 :: u92 :: u93 :: u94 :: u95 :: u96 :: u97 :: u98 :: u99 :: u100 :: u101 :: u102 :: u103 :: u104 :: u105 :: u106 :: u107 :: u108 :: u109 :: u110 :: u111 :: u112 :: u113 :: u114 :: u115 :: u116 :: u117 :: u118 :: u119 :: u120 :: u121 :: u122 :: u123 :: u124 :: u125 :: u126 :: u127 :: u128 :: u129 :: u130 :: u131 :: u132 :: u133 :: u134 :: u135 :: u136 :: u137 :: u138 :: u139 :: u140 :: u141 :: u142 :: u143 :: u144 :: u145 :: u146 :: u147 :: u148 :: u149 :: u150 :: u151 :: u152 :: u153 :: u154 :: u155 :: u156 :: u157 :: u158 :: u159 :: u160 :: u161 :: u162 :: u163 :: u164 :: u165 :: u166 :: u167 :: u168 :: u169 :: u170 :: u171 :: u172 :: u173 :: u174 :: u175 :: u176 :: u177 :: u178 :: u179 :: u180 :: u181 :: u182 :: u183 :: u184 :: u185 :: u186 :: u187 :: u188 :: u189 :: u190 :: u191 :: u192 :: u193 :: u194 :: u195 :: u196 :: u197 :: u198 :: u199 :: u200 :: u201 :: u202 :: u203 :: u204 :: u205 :: u206 :: u207 :: u208 :: u209 :: u210 :: u211 :: u212 :: u213 :: u214 :: u215 :: u216 :: u217 :: u218 :: u219 :: u220 :: u221 :: u222 :: u223 :: u224 :: u225 :: u226 :: u227 :: u228 :: u229 :: u230 :: u231 :: u232 :: u233 :: u234 :: u235 :: u236 :: u237 :: u238 :: u239 :: u240 :: u241 :: u242 :: u243 :: u244 :: u245 :: u246 :: u247 :: u248 :: u249 :: u250 :: u251 :: u252 :: u253 :: u254 :: u255 :: u256 :: []), defers := [] } W := by
  dsimp only [Ybad.f3, Option.getD, tl, hd] at hK ⊢
  subst hQ
  have l4 : ((L : Int) == 4) = true := by rw [h4]; decide
  have l0 : (0 : Int) < (L : Int) := by omega
  have l1 : (1 : Int) < (L : Int) := by omega
  have l2 : (2 : Int) < (L : Int) := by omega
  have l3 : (3 : Int) < (L : Int) := by omega
  obtain ⟨cs, hcs⟩ : ∃ cs, cs = ((xs.take (s + L)).drop s) := ⟨_, rfl⟩
  have hb1 := M.out.b1
  rw [← hcs] at hb1
  obtain ⟨v0, hv0⟩ : ∃ v, v = cs.getD 0 0 := ⟨_, rfl⟩
  obtain ⟨v1, hv1⟩ : ∃ v, v = cs.getD 1 0 := ⟨_, rfl⟩
  obtain ⟨v2, hv2⟩ : ∃ v, v = cs.getD 2 0 := ⟨_, rfl⟩
  obtain ⟨v3, hv3⟩ : ∃ v, v = cs.getD 3 0 := ⟨_, rfl⟩
  have q0 := hb1.at (i := 0) (by omega)
  have q1 := hb1.at (i := 1) (by omega)
  have q2 := hb1.at (i := 2) (by omega)
  have q3 := hb1.at (i := 3) (by omega)
  rw [← hv0] at q0
  rw [← hv1] at q1
  rw [← hv2] at q2
  rw [← hv3] at q3
  have e0 : W.cell? ⟨bb, o1, none⟩ = some (.int .u8 v0) := by rw [hv0]; exact hb1.cell 0 (by omega)
  have e1 : W.cell? ⟨bb, o1 + 1, none⟩ = some (.int .u8 v1) := by rw [hv1]; exact hb1.cell 1 (by omega)
  have e2 : W.cell? ⟨bb, o1 + 2, none⟩ = some (.int .u8 v2) := by rw [hv2]; exact hb1.cell 2 (by omega)
  have e3 : W.cell? ⟨bb, o1 + 3, none⟩ = some (.int .u8 v3) := by rw [hv3]; exact hb1.cell 3 (by omega)
  have w0' : IntKind.i64.wrap v0 = v0 := by rw [IntKind.wrap_i64]; omega
  have w1' : IntKind.i64.wrap v1 = v1 := by rw [IntKind.wrap_i64]; omega
  have w2' : IntKind.i64.wrap v2 = v2 := by rw [IntKind.wrap_i64]; omega
  have w3' : IntKind.i64.wrap v3 = v3 := by rw [IntKind.wrap_i64]; omega
  have hbw : bb < W.heap.size := hb1.lt (by omega)
  obtain ⟨f, hf⟩ : ∃ f : Int → ByteArray, f = fun v => ⟨(itoa v).toArray⟩ := ⟨_, rfl⟩
  have fs : ∀ v : Int, 0 ≤ v → v < 256 → (f v).size ≤ 20 := by
    intro v h0 h1
    rw [hf]
    exact itoa_size v h0 (by omega)
  have z0 := fs v0 q0.1 q0.2
  have z1 := fs v1 q1.1 q1.2
  have z2 := fs v2 q2.1 q2.2
  have z3 := fs v3 q3.1 q3.2
  obtain ⟨D, hD⟩ : ∃ D : ByteArray, D = ⟨#[46]⟩ := ⟨_, rfl⟩
  have zD : D.size = 1 := by rw [hD]; rfl
  obtain ⟨A1, hA1⟩ : ∃ A, A = f v0 ++ D := ⟨_, rfl⟩
  have zA1 : A1.size = (f v0).size + 1 := by rw [hA1, ByteArray.size_append, zD]
  obtain ⟨A2, hA2⟩ : ∃ A, A = A1 ++ f v1 := ⟨_, rfl⟩
  have zA2 : A2.size = A1.size + (f v1).size := by rw [hA2, ByteArray.size_append]
  obtain ⟨A3, hA3⟩ : ∃ A, A = A2 ++ D := ⟨_, rfl⟩
  have zA3 : A3.size = A2.size + 1 := by rw [hA3, ByteArray.size_append, zD]
  obtain ⟨A4, hA4⟩ : ∃ A, A = A3 ++ f v2 := ⟨_, rfl⟩
  have zA4 : A4.size = A3.size + (f v2).size := by rw [hA4, ByteArray.size_append]
  obtain ⟨A5, hA5⟩ : ∃ A, A = A4 ++ D := ⟨_, rfl⟩
  have zA5 : A5.size = A4.size + 1 := by rw [hA5, ByteArray.size_append, zD]
  obtain ⟨A6, hA6⟩ : ∃ A, A = A5 ++ f v3 := ⟨_, rfl⟩
  have p1 : ∀ w, (Op.stringOp .add (f v0) ⟨#[46]⟩).run Ybad.prog w = .ok (.string A1) w := fun w => by rw [hA1, ← hD]; exact run_string_add_sum w _ _ (by omega)
  have p2 : ∀ w, (Op.stringOp .add A1 (f v1)).run Ybad.prog w = .ok (.string A2) w := fun w => by rw [hA2]; exact run_string_add_sum w _ _ (by omega)
  have p3 : ∀ w, (Op.stringOp .add A2 ⟨#[46]⟩).run Ybad.prog w = .ok (.string A3) w := fun w => by rw [hA3, ← hD]; exact run_string_add_sum w _ _ (by omega)
  have p4 : ∀ w, (Op.stringOp .add A3 (f v2)).run Ybad.prog w = .ok (.string A4) w := fun w => by rw [hA4]; exact run_string_add_sum w _ _ (by omega)
  have p5 : ∀ w, (Op.stringOp .add A4 ⟨#[46]⟩).run Ybad.prog w = .ok (.string A5) w := fun w => by rw [hA5, ← hD]; exact run_string_add_sum w _ _ (by omega)
  have p6 : ∀ w, (Op.stringOp .add A5 (f v3)).run Ybad.prog w = .ok (.string A6) w := fun w => by rw [hA6]; exact run_string_add_sum w _ _ (by omega)
  have hA : Hid (Agree 64 (xs.getD 0 0) ((xs.take (s + L)).drop s) A6 false true true) := by
    rw [← hcs]
    have hl : cs.length = 4 := by rw [← hb1.len]; exact h4
    refine Agree.yes hx (by decide) (by unfold pvK; simp [hl]) (fun _ => ?_)
    have e : pvS 64 cs = some ⟨(txt4 (lo4 (cs.getD 0 0).toNat (cs.getD 1 0).toNat (cs.getD 2 0).toNat (cs.getD 3 0).toNat)).toArray⟩ := by unfold pvS; simp only [hl]; simp
    rw [e, ← hv0, ← hv1, ← hv2, ← hv3, hA6, hA5, hA4, hA3, hA2, hA1, hD, hf]
    exact congrArg some (txt4_itoa v0 v1 v2 v3 q0 q1 q2 q3)
  have HI : Hid (∀ (w' : World) (v : Int), Gd W wb w' → 0 ≤ v → v < 256 → Calls Ybad.prog 8 #[.int .i64 v] w' fun e w'' => e = .returned (.string (f v)) ∧ Gd W wb w'' ∧ (w''.cell? ⟨bb, o1, none⟩ = some (.int .u8 v0) ∧ w''.cell? ⟨bb, o1 + 1, none⟩ = some (.int .u8 v1) ∧ w''.cell? ⟨bb, o1 + 2, none⟩ = some (.int .u8 v2) ∧ w''.cell? ⟨bb, o1 + 3, none⟩ = some (.int .u8 v3)) ∧ w''.cell? ⟨wb, 0, none⟩ = some (.string ⟨#[]⟩) ∧ w''.cell? ⟨wb, 1, none⟩ = some (.string ⟨#[]⟩) ∧ w''.cell? ⟨wb, 2, none⟩ = some (.bool false) ∧ w''.frozen? ⟨wb, 0, none⟩ = false ∧ w''.frozen? ⟨wb, 1, none⟩ = false ∧ w''.frozen? ⟨wb, 2, none⟩ = false) := by
    intro w' v hg h0 h1
    have hbl : Below w0.heap.size w0 w' := M.out.bl.trans (hg.kept.below M.out.bl.size (fun k hk => by rw [hk]; exact M.out.w0w))
    refine (itoaI v (by omega) (by omega) w' (M.out.tz w' hbl).1).mono ?_
    rintro e w'' ⟨he, hb⟩
    have he : e = .returned (.string (f v)) := by rw [he, hf]
    have hg' : Gd W wb w'' := ⟨hg.kept.trans (kept_of_below hb), (hb.block wb (lt_of_block hg.var)).trans hg.var⟩
    have hc : ∀ i, i < 4 → w''.cell? ⟨bb, o1 + i, none⟩ = some (.int .u8 (cs.getD i 0)) := fun i hi => (hb1.kept hg'.kept M.out.bne).cell i (by omega)
    refine ⟨he, hg', ⟨?_, ?_, ?_, ?_⟩, rb_keep hg.var hb⟩
    · rw [hv0]; exact hc 0 (by omega)
    · rw [hv1]; exact hc 1 (by omega)
    · rw [hv2]; exact hc 2 (by omega)
    · rw [hv3]; exact hc 3 (by omega)
  have hG : Gd W wb W.drew := ⟨(Kept.refl _ W).drew, M.out.wz⟩
  have hbne := M.out.bne
  obtain ⟨r0, r1, r2, y0, y1, y2⟩ := rb_keep M.out.wz (Below.refl _ W)
  have HX := hide hx
  have H4 := hide h4
  have HCS := hide hcs
  have HV0 := hide hv0
  have HV1 := hide hv1
  have HV2 := hide hv2
  have HV3 := hide hv3
  have HB1 := hide hb1
  obtain ⟨q00, q01⟩ := q0
  obtain ⟨q10, q11⟩ := q1
  obtain ⟨q20, q21⟩ := q2
  obtain ⟨q30, q31⟩ := q3
  clear hx h4 hcs hv0 hv1 hv2 hv3 hb1 hbw hf fs z0 z1 z2 z3 hD zD hA1 zA1 hA2 zA2 hA3 zA3 hA4 zA4 hA5 zA5 hA6
  have l0n : 0 < L := by omega
  have l1n : 1 < L := by omega
  have l2n : 2 < L := by omega
  have l3n : 3 < L := by omega
  go_upto_region 61 with fail
  go_region_held3 (fun w' => w'.cell? ⟨bb, o1, none⟩ = some (.int .u8 v0) ∧ w'.cell? ⟨bb, o1 + 1, none⟩ = some (.int .u8 v1) ∧ w'.cell? ⟨bb, o1 + 2, none⟩ = some (.int .u8 v2) ∧ w'.cell? ⟨bb, o1 + 3, none⟩ = some (.int .u8 v3)) (first | assumption | go_keep | exact ⟨keep1 hbne (by first | assumption | exact hcc.1), keep1 hbne (by first | assumption | exact hcc.2.1), keep1 hbne (by first | assumption | exact hcc.2.2.1), keep1 hbne (by first | assumption | exact hcc.2.2.2)⟩) (first | (go_at_call 8; refine (HI.out _ _ (by assumption) (by assumption) (by assumption)).mono ?_; rintro e w' ⟨rfl, hg, hcc, r0, r1, r2, y0, y1, y2⟩))
  have HG := hide hg
  clear hg hcc
  go_upto_region 72 with fail
  have F := M.out.fin (var_kept HG.out.kept A6 false) ck 64 A6 false true true (var_put HG.out.var A6 false) hA.out
  apply tail15 (w0 := w0) (wv := A6) (wn := false) (wok := true) (chk := true) (tB := strOf xs) (tR := strOf (xs.drop (s + L))) (hwb := F.fwb) (hBl := F.fbl) (HV := F.fhv) (hcb := F.fcb) (hck := F.fck) (hcr := F.fcr) (hQ := rfl) (hK := by assumption)
end Go.Proofs.YbulkdphmDoor
