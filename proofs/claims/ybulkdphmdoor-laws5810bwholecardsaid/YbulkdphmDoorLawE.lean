/-
  The law's end.
-/
import Derived.Test.YbulkdphmDoorRows
import Derived.WalkKit
import Derived.ProofKit
import Derived.OpenShut
import Derived.WalkLawsBesides
import Derived.BigQuiet
import Derived.Laws.BitsAllLaws
import Derived.Laws.StructEq
import Derived.Outline
import Derived.Deep.RegionWith
import Derived.Deep.RegionHeld3
import Derived.Deep.DeepCutAuto
import Derived.Deep.DrawnRows
import Derived.Handy
import Derived.Laws.ResultCell
import Derived.Test.YbulkdphmDoorVal
namespace Go.Proofs.YbulkdphmDoor
open Go.ChangeShapes Go.WideShapes Go.ChangeAt Go.RowKit
open Go.ChangeMaps (setBlock)
set_option linter.unusedVariables false
set_option linter.unusedSimpArgs false

open Go.Lib (byteCells decDigits itoa)
/-- What of a chain of statements is left behind the first n. -/
def tl : Nat → Code → Code
  | n + 1, .seq _ b => tl n b
  | _, c => c
/-- The first statement of a chain. -/
def hd : Code → Code
  | .seq a _ => a
  | c => c
/-- What 'string(v)' gives, from the world w on. -/
def Str (w : World) (v : Value) (t : ByteArray) : Prop := ∀ w', Below w.heap.size w w' → (convert 22 9 v).run Ybad.prog w' = .ok (.string t) w'
theorem Str.on {w w' : World} {v : Value} {t : ByteArray} (h : Str w v t) (hb : Below w.heap.size w w') : Str w' v t := fun w'' hb' => h w'' (hb.trans (hb'.mono hb.size))
theorem Str.bytes {w : World} {b off n c : Nat} {xs : List Int} (h : Bytes w b off n xs) : Str w (.slice (some ⟨b, off, none⟩) n c) (strOf xs) := fun w' hb => conv_bytes b off n c xs w' (h.on hb)
theorem str_self (t : ByteArray) : (t.toList == t.toList) = true := by simp
theorem equal_str {w w' : World} {v u : Value} {t : ByteArray} (h : Str w v t) (h' : Str w u t) (hb : Below w.heap.size w w') : Calls Ybad.prog 10 #[v, u] w' fun e w'' => e = .returned (.bool true) ∧ w'' = w' := by
  have := Ybad.bytes_Equal_strs v u t t w' (h w' hb) (h' w' hb)
  rw [str_self] at this
  exact this

set_option maxRecDepth 100000 in
set_option maxHeartbeats 3200000 in
theorem tail15 (tg : Int) (w0 W : World) (pb pk pr : Option Addr) (n m cb ck cr wb : Nat) (wv tB tR : ByteArray) (wn wok chk : Bool) (hwb : W.heap[wb]? = some (.cells #[.string ⟨#[]⟩, .string wv, .bool wn] 27)) (hBl : Below w0.heap.size w0 W)
    (HV : Hid (Calls Ybad.prog 9 #[.pointer (some ⟨W.heap.size, 0, none⟩), .int .u8 tg] (W.alloc (.cells #[.slice pb n cb] 33)) fun e w' => ∃ sv p1 c1, e = .returned (.tuple #[.agg #[.string ⟨#[]⟩, .string sv, .bool wn], .bool wok]) ∧ w'.cell? ⟨W.heap.size, 0, none⟩ = some (.slice p1 m c1) ∧ (Below W.heap.size W w' ∧ (chk = true → sv = wv) ∧ Str W (.slice p1 m c1) tR)))
    (hcb : Str W (.slice pb n cb) tB) (hck : Str W (.slice pk n ck) tB) (hcr : Str W (.slice pr m cr) tR) (u0 u1 u2 u3 u4 u5 u6 u7 u10 u11 u13 u14 u15 u16 u21 u22 u23 u24 u25 u26 u27 u28 u29 u30 u31 u32 u33 u34 u35 u36 u37 u38 u39 u40 u41 u42 u43 u44 u45 u46 u47 u48 u49 u50 u51 u52 u53 u54 u55 u56 u57 u58 u59 u60 u61 u62 u63 u64 u65 u66 u67 u68 u69 u70 u71 u72 u73 u74 u75 u76 u77 u78 u79 u80 u81 u82 u83 u84 u85 u86 u87 u88 u89 u90 u91 u92 u93 u94 u95 u96 u97 u98 u99 u100 u101 u102 u103 u104 u105 u106 u107 u108 u109 u110 u111 u112 u113 u114 u115 u116 u117 u118 u119 u120 u121 u122 u123 u124 u125 u126 u127 u128 u129 u130 u131 u132 u133 u134 u135 u136 u137 u138 u139 u140 u141 u142 u143 u144 u145 u146 u147 u148 u149 u150 u151 u152 u153 u154 u155 u156 u157 u158 u159 u160 u161 u162 u163 u164 u165 u166 u167 u168 u169 u170 u171 u172 u173 u174 u175 u176 u177 u178 u179 u180 u181 u182 u183 u184 u185 u186 u187 u188 u189 u190 u191 u192 u193 u194 u195 u196 u197 u198 u199 u200 u201 u202 u203 u204 u205 u206 u207 u208 u209 u210 u211 u212 u213 u214 u215 u216 u217 u218 u219 u220 u221 u222 u223 u224 u225 u226 u227 u228 u229 u230 u231 u232 u233 u234 u235 u236 u237 u238 u239 u240 u241 u242 u243 u244 u245 u246 u247 u248 u249 u250 u251 u252 u253 u254 u255 u256 : Value) (Q : Exit → Act → World → Prop) (hQ : Q = bodyPost Ybad.prog Ybad.f3 fun e w' => e = .returned (.bool true) ∧ Below w0.heap.size w0 w')
    (K : Act → World → Prop) (hK : ∀ a w, (tl 16 (Ybad.f3.body.getD .skip)).wp Ybad.prog Q a w → K a w) :
    (hd (tl 15 (Ybad.f3.body.getD .skip))).wp Ybad.prog (Exit.then K Q) { tmps := List.toArray (u0 :: u1 :: u2 :: u3 :: u4 :: u5 :: u6 :: u7 :: .int .u8 tg :: .slice pb n cb :: u10 :: u11 :: .slice pk n ck :: u13 :: u14 :: u15 :: u16 :: .pointer (some ⟨wb, 0, none⟩) :: .bool wok :: .bool chk :: .slice pr m cr :: u21 :: u22 :: u23 :: u24 :: u25 :: u26 :: u27 :: u28 :: u29 :: u30 :: u31 :: u32 :: u33 :: u34 :: u35 :: u36 :: u37 :: u38 :: u39 :: u40 :: u41 :: u42 :: u43 :: u44 :: u45 :: u46 :: u47 :: u48 :: u49 :: u50 :: u51 :: u52 :: u53 :: u54 :: u55 :: u56 :: u57 :: u58 :: u59 :: u60 :: u61 :: u62 :: u63 :: u64 :: u65 :: u66 :: u67 :: u68 :: u69 :: u70 :: u71 :: u72 :: u73 :: u74 :: u75 :: u76 :: u77 :: u78 :: u79 :: u80 :: u81 :: u82 :: u83 :: u84 :: u85 :: u86 :: u87 :: u88 :: u89 :: u90 :: u91 :: u92 :: u93 :: u94 :: u95 :: u96 :: u97 :: u98 :: u99 :: u100 :: u101 :: u102 :: u103 :: u104 :: u105 :: u106 :: u107 :: u108 :: u109 :: u110 :: u111 :: u112 :: u113 :: u114 :: u115 :: u116 :: u117 :: u118 :: u119 :: u120 :: u121 :: u122 :: u123 :: u124 :: u125 :: u126 :: u127 :: u128 :: u129 :: u130 :: u131 :: u132 :: u133 :: u134 :: u135 :: u136 :: u137 :: u138 :: u139 :: u140 :: u141 :: u142 :: u143 :: u144 :: u145 :: u146 :: u147 :: u148 :: u149 :: u150 :: u151 :: u152 :: u153 :: u154 :: u155 :: u156 :: u157 :: u158 :: u159 :: u160 :: u161 :: u162 :: u163 :: u164 :: u165 :: u166 :: u167 :: u168 :: u169 :: u170 :: u171 :: u172 :: u173 :: u174 :: u175 :: u176 :: u177 :: u178 :: u179 :: u180 :: u181 :: u182 :: u183 :: u184 :: u185 :: u186 :: u187 :: u188 :: u189 :: u190 :: u191 :: u192 :: u193 :: u194 :: u195 :: u196 :: u197 :: u198 :: u199 :: u200 :: u201 :: u202 :: u203 :: u204 :: u205 :: u206 :: u207 :: u208 :: u209 :: u210 :: u211 :: u212 :: u213 :: u214 :: u215 :: u216 :: u217 :: u218 :: u219 :: u220 :: u221 :: u222 :: u223 :: u224 :: u225 :: u226 :: u227 :: u228 :: u229 :: u230 :: u231 :: u232 :: u233 :: u234 :: u235 :: u236 :: u237 :: u238 :: u239 :: u240 :: u241 :: u242 :: u243 :: u244 :: u245 :: u246 :: u247 :: u248 :: u249 :: u250 :: u251 :: u252 :: u253 :: u254 :: u255 :: u256 :: []), defers := [] } W := by
  dsimp only [Ybad.f3, Option.getD, tl, hd] at hK ⊢
  subst hQ
  obtain ⟨db, hdb⟩ : ∃ db, db = W.heap.size := ⟨_, rfl⟩
  obtain ⟨W1, hW1⟩ : ∃ W1, W1 = W.alloc (.cells #[.slice pb n cb] 33) := ⟨_, rfl⟩
  rw [← hdb, ← hW1] at HV
  have HDB := hide hdb
  have HW1 := hide hW1
  have HWB := hide hwb
  have HBL := hide hBl
  have HCB := hide hcb
  have HCK := hide hck
  have HCR := hide hcr
  clear hdb hW1 hwb hBl hcb hck hcr
  go_upto_region 73 with fail
  rw [← HDB.out, ← HW1.out]
  go_upto_region 74 with (go_at_call 9; refine HV.out.mono ?_; rintro e W2 ⟨sv, p1, c1, rfl, d2, hh⟩; have HH := hide hh; clear hh)
  obtain ⟨gb, hgb⟩ : ∃ gb, gb = W2.heap.size := ⟨_, rfl⟩
  obtain ⟨W3, hW3⟩ : ∃ W3, W3 = W2.alloc (.cells #[.string ⟨#[]⟩, .string sv, .bool wn] 27) := ⟨_, rfl⟩
  rw [← hW3, ← hgb]
  have hB2 : Below W.heap.size W W2 := HDB.out ▸ HH.out.1
  have hB3 : Below W.heap.size W W3 := by rw [hW3]; exact Below.alloc hB2 hB2.size _
  have hg3 : W3.heap[gb]? = some (.cells #[.string ⟨#[]⟩, .string sv, .bool wn] 27) := by rw [hW3]; exact hp_alloc_at hgb
  have hw3 : W3.heap[wb]? = some (.cells #[.string ⟨#[]⟩, .string wv, .bool wn] 27) := (hB3.block wb (lt_of_block HWB.out)).trans HWB.out
  have d3 : W3.cell? ⟨db, 0, none⟩ = some (.slice p1 m c1) := by
    rw [hW3]
    exact ((Below.alloc (Below.refl W2.heap.size W2) (Nat.le_refl _) _).cell (p := ⟨db, 0, none⟩) (World.block_lt_of_cell? W2 _ d2)).trans d2
  have g0 : W3.cell? ⟨gb, 0, none⟩ = some (.string ⟨#[]⟩) := cell_at hg3 rfl
  have g1 : W3.cell? ⟨gb, 1, none⟩ = some (.string sv) := cell_at hg3 rfl
  have g2 : W3.cell? ⟨gb, 2, none⟩ = some (.bool wn) := cell_at hg3 rfl
  have x1 : W3.cell? ⟨wb, 1, none⟩ = some (.string wv) := cell_at hw3 rfl
  have x2 : W3.cell? ⟨wb, 2, none⟩ = some (.bool wn) := cell_at hw3 rfl
  have E1 : Hid (Calls Ybad.prog 10 #[.slice pb n cb, .slice pk n ck] W3 fun e w'' => e = .returned (.bool true) ∧ w'' = W3) := equal_str HCB.out HCK.out hB3
  have E2 : Hid (Calls Ybad.prog 10 #[.slice p1 m c1, .slice pr m cr] W3 fun e w'' => e = .returned (.bool true) ∧ w'' = W3) := equal_str HH.out.2.2 HCR.out hB3
  have hfin : Hid (Below w0.heap.size w0 W3) := HBL.out.trans (hB3.mono HBL.out.size)
  have hnn : ((n : Int) != (n : Int)) = false := by simp
  have hmm : ((m : Int) != (m : Int)) = false := by simp
  have hkk : (wok != wok) = false := by simp
  have hww : (wn != wn) = false := by simp
  have HE := hide HH.out.2.1
  clear hgb hW3 hB2 hB3 hg3 hw3 d2 HH HDB HW1 HWB HBL HCB HCK HCR HV
  cases chk with
  | true =>
    obtain rfl : sv = wv := HE.out rfl
    have hss : (sv.toList != sv.toList) = false := by simp
    go_wp2_with (go_at_call 10; first | (refine E1.out.mono ?_; rintro e w' ⟨rfl, rfl⟩) | (refine E2.out.mono ?_; rintro e w' ⟨rfl, rfl⟩))
    go_ret
    exact ⟨rfl, hfin.out⟩
  | false =>
    go_wp2_with (go_at_call 10; first | (refine E1.out.mono ?_; rintro e w' ⟨rfl, rfl⟩) | (refine E2.out.mono ?_; rintro e w' ⟨rfl, rfl⟩))
    go_ret
    exact ⟨rfl, hfin.out⟩
end Go.Proofs.YbulkdphmDoor
