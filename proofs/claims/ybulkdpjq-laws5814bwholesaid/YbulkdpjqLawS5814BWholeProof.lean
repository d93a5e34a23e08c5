/-
  THE LAW S5814B: the input opened, the walk, the statement.
-/
import Derived.Test.YbulkdpjqRows
import Derived.WalkKit
import Derived.ProofKit
import Derived.OpenShut
import Derived.WalkLawsBesides
import Derived.BigQuiet
import Derived.Laws.BitsAllLaws
import Derived.Laws.StructEq
import Derived.Outline
import Derived.Test.YbulkdpjqHeap
import Derived.Test.YbulkdpjqAids
import Derived.Test.YbulkdpjqState
import Derived.Test.YbulkdpjqFew
import Derived.Test.YbulkdpjqHanded
import Derived.Test.YbulkdpjqRec
import Derived.Deep.RegionWith
import Derived.Deep.RegionHeld3
import Derived.Deep.DeepCutAuto
import Derived.Deep.DrawnRows
import Derived.Test.YbulkdpjqLaw
import Derived.SizedLaws
import Derived.ChangeSlices
import Derived.ShutString
import Derived.ChangeOld
import Derived.Below
namespace Go.Proofs.Ybulkdpjq
open Go.ChangeShapes Go.WideShapes Go.ChangeAt Go.RowKit
open Go.ChangeMaps (setBlock)
set_option linter.unusedVariables false

theorem own : ownKnob Yba.prog.godebug = none := by kernel_rfl
theorem laidOut : laidOutB Yba.prog = true := by kernel_rfl
theorem bytes5 : Yba.prog.bytesOf 5 = 1 := by kernel_rfl
theorem cellsOf5 : Yba.prog.cellsOf 5 = 1 := by kernel_rfl
theorem cellsOf25 : Yba.prog.cellsOf 25 = 20 := by kernel_rfl

def TS : List TypeId := [5, 5, 5, 5, 5, 4, 4, 4, 4, 22, 22, 22, 22, 23, 23, 4, 4, 2, 2, 2]
theorem cellTypes25 : Yba.prog.cellTypes Yba.prog.depth 25 = some TS := by kernel_rfl

theorem spot_of {W : World} {base : Nat} {cs : Array Value} (hv : Value.okWide Yba.prog W .any base 25 (.agg cs)) {k : Nat} (hk : TS[k]? = some 22) {a : Addr} {len cap : Nat} (hc : cs[k]? = some (.slice (some a) len cap)) : a.spot = none := by
  simp only [Value.okWide, Yba.underlying25] at hv
  obtain ⟨cs', e, hs, ts, hts, hn, hall⟩ := hv
  obtain rfl : cs = cs' := by simpa using e
  rw [cellTypes25] at hts
  obtain rfl : TS = ts := by simpa using hts
  obtain ⟨u, hu, hok⟩ := hall k _ hc
  rw [Nat.mod_eq_of_lt (List.getElem?_eq_some_iff.1 hk).1, hk] at hu
  obtain rfl := Option.some.inj hu
  simp only [Cell.okWide, Cell.ok, Yba.underlying22] at hok
  exact hok.2.2.2.1

theorem wf_u8 {n : Int} (h : (Lit.int .u8 n).wf = true) : 0 ≤ n ∧ n ≤ 255 := by
  have e1 : IntKind.u8.min = 0 := rfl
  have e2 : IntKind.u8.max = 255 := rfl
  simpa [Lit.wf, e1, e2] using h
theorem wf_i64 {n : Int} (h : (Lit.int .i64 n).wf = true) : -9223372036854775808 ≤ n ∧ n ≤ 9223372036854775807 := by
  have e1 : IntKind.i64.min = -9223372036854775808 := rfl
  have e2 : IntKind.i64.max = 9223372036854775807 := rfl
  simpa [Lit.wf, e1, e2] using h

/-- How long a slice's data is. -/
def lenD {H : Type} : DataW H → Nat
  | .slice e sp => e.length + sp.length
  | _ => 0

section
variable {H : Type} {enc : TypeId × Value → H}

theorem slice_field {W : World} {n : Nat} {v : Value} {x : DataW H × List MemPlace} (h : DataW.trod enc Yba.prog W 0 (fun _ => true) true n 22 [v] = some x) (hsp : ∀ a len cap, v = .slice (some a) len cap → a.spot = none) :
    ∃ p l c xs, v = .slice p l c ∧ l = xs.length ∧ IsB W (.slice p l c) xs ∧ (∀ z ∈ xs, 0 ≤ z ∧ z ≤ 255) ∧ xs.length ≤ lenD x.1 := by
  rcases open_ints Yba.underlying22 Yba.underlying5 cellsOf5 h with ⟨hcs, rfl⟩ | ⟨a, l, c, zs, hcs, _, hl, hm, hz, rfl, hcell, hwz⟩
  · obtain rfl : v = .slice none 0 0 := by simpa using hcs
    exact ⟨none, 0, 0, [], rfl, rfl, .inl ⟨rfl, rfl⟩, by simp, by simp⟩
  · obtain rfl : v = .slice (some a) l c := by simpa using hcs
    have hs := hsp a l c rfl
    obtain ⟨b, off, spot⟩ := a
    obtain rfl : spot = none := hs
    have hzl : zs.length = c := by simpa using hz
    have hx : (zs.take l).length = l := by simp; omega
    refine ⟨_, _, _, zs.take l, rfl, hx.symm, .inr ⟨b, off, c, by rw [hx], fun i hi => ?_⟩, fun z hzz => wf_u8 (hwz z (List.mem_of_mem_take hzz)), ?_⟩
    · have h1 := hcell i (by omega)
      have e : (zs.take l).getD i 0 = zs.getD i 0 := by
        have hil : i < l := by omega
        simp [List.getD, hil]
      rw [e, ← h1]
      unfold Addr.add
      split
      · next h0 => subst h0; rfl
      · rfl
    · simp [lenD, lits]

theorem list20 {α : Type} (l : List α) (h : l.length = 20) : ∃ c0 c1 c2 c3 c4 c5 c6 c7 c8 c9 c10 c11 c12 c13 c14 c15 c16 c17 c18 c19, l = [c0, c1, c2, c3, c4, c5, c6, c7, c8, c9, c10, c11, c12, c13, c14, c15, c16, c17, c18, c19] := by
  match l, h with
  | [c0, c1, c2, c3, c4, c5, c6, c7, c8, c9, c10, c11, c12, c13, c14, c15, c16, c17, c18, c19], _ => exact ⟨_, _, _, _, _, _, _, _, _, _, _, _, _, _, _, _, _, _, _, _, rfl⟩

theorem weight_of {d : DataW H} {ds : List (DataW H)} {k : Nat} (h : (DataW.weightsEach Yba.prog [25] [.agg ds]).all (· ≤ reachBytes) = true) (hk : TS[k]? = some 22) (hd : ds[k]? = some d) : lenD d ≤ 140737488355328 := by
  cases d with
  | slice e sp =>
    have hts : DataW.weights Yba.prog 25 (.agg ds) = DataW.weightsEach Yba.prog TS ds := by
      simp only [DataW.weights, Yba.underlying25]
      rfl
    have h2 : (e.length + sp.length) * Yba.prog.bytesOf 5 ≤ reachBytes := by
      have hm : (e.length + sp.length) * Yba.prog.bytesOf 5 ∈ DataW.weightsEach Yba.prog [25] [DataW.agg ds] := by
        refine DataW.weights_mem_each (j := 0) rfl rfl _ ?_
        rw [hts]
        exact DataW.weights_mem_each hk hd _ (by simp [DataW.weights, Yba.underlying22])
      simpa using List.all_eq_true.1 h _ hm
    rw [bytes5] at h2
    simp only [reachBytes] at h2
    simp only [lenD]
    omega
  | _ => simp [lenD]

set_option maxHeartbeats 1600000 in
set_option maxRecDepth 100000 in
theorem open_in {W : World} {base : Nat} {cs : Array Value} {fuel : Nat} {x : DataW H × List MemPlace} (hv : Value.okWide Yba.prog W .any base 25 (.agg cs)) (h : DataW.trod enc Yba.prog W 0 (fun _ => true) true fuel 25 cs.toList = some x)
    (hsz : (DataW.weightsEach Yba.prog [25] [x.1]).all (· ≤ reachBytes) = true) :
    ∃ i : Inp, cs = i.cells ∧ IsB W i.v9 i.xs9 ∧ IsB W i.v10 i.xs10 ∧ IsB W i.v11 i.xs11 ∧ IsB W i.v12 i.xs12 ∧
      i.l9 ≤ 140737488355328 ∧ i.l10 ≤ 140737488355328 ∧ i.l11 ≤ 140737488355328 ∧ i.l12 ≤ 140737488355328 ∧ ((i.l9 : Int) + i.l10 + i.l11 + i.l12 ≤ 1048576 → i.Ok) := by
  obtain ⟨l⟩ := cs
  obtain ⟨xs, n, rfl, rfl, hl, hlen, hf⟩ := DataW.trod_struct Yba.underlying25 h
  rw [cellsOf25] at hl
  obtain ⟨c0, c1, c2, c3, c4, c5, c6, c7, c8, c9, c10, c11, c12, c13, c14, c15, c16, c17, c18, c19, rfl⟩ := list20 l hl
  obtain ⟨y0, y1, y2, y3, y4, y5, y6, y7, y8, y9, y10, y11, y12, y13, y14, y15, y16, y17, y18, y19, rfl⟩ := list20 xs hlen
  have f0 : DataW.trod enc Yba.prog W 0 (fun _ => true) true n 5 [c0] = some y0 := hf 0 _ rfl
  have f1 : DataW.trod enc Yba.prog W 0 (fun _ => true) true n 5 [c1] = some y1 := hf 1 _ rfl
  have f2 : DataW.trod enc Yba.prog W 0 (fun _ => true) true n 5 [c2] = some y2 := hf 2 _ rfl
  have f3 : DataW.trod enc Yba.prog W 0 (fun _ => true) true n 5 [c3] = some y3 := hf 3 _ rfl
  have f4 : DataW.trod enc Yba.prog W 0 (fun _ => true) true n 5 [c4] = some y4 := hf 4 _ rfl
  have f5 : DataW.trod enc Yba.prog W 0 (fun _ => true) true n 4 [c5] = some y5 := hf 5 _ rfl
  have f6 : DataW.trod enc Yba.prog W 0 (fun _ => true) true n 4 [c6] = some y6 := hf 6 _ rfl
  have f7 : DataW.trod enc Yba.prog W 0 (fun _ => true) true n 4 [c7] = some y7 := hf 7 _ rfl
  have f8 : DataW.trod enc Yba.prog W 0 (fun _ => true) true n 4 [c8] = some y8 := hf 8 _ rfl
  have f9 : DataW.trod enc Yba.prog W 0 (fun _ => true) true n 22 [c9] = some y9 := hf 9 _ rfl
  have f10 : DataW.trod enc Yba.prog W 0 (fun _ => true) true n 22 [c10] = some y10 := hf 10 _ rfl
  have f11 : DataW.trod enc Yba.prog W 0 (fun _ => true) true n 22 [c11] = some y11 := hf 11 _ rfl
  have f12 : DataW.trod enc Yba.prog W 0 (fun _ => true) true n 22 [c12] = some y12 := hf 12 _ rfl
  have f13 : DataW.trod enc Yba.prog W 0 (fun _ => true) true n 23 [c13] = some y13 := hf 13 _ rfl
  have f14 : DataW.trod enc Yba.prog W 0 (fun _ => true) true n 23 [c14] = some y14 := hf 14 _ rfl
  have f15 : DataW.trod enc Yba.prog W 0 (fun _ => true) true n 4 [c15] = some y15 := hf 15 _ rfl
  have f16 : DataW.trod enc Yba.prog W 0 (fun _ => true) true n 4 [c16] = some y16 := hf 16 _ rfl
  have f17 : DataW.trod enc Yba.prog W 0 (fun _ => true) true n 2 [c17] = some y17 := hf 17 _ rfl
  have f18 : DataW.trod enc Yba.prog W 0 (fun _ => true) true n 2 [c18] = some y18 := hf 18 _ rfl
  have f19 : DataW.trod enc Yba.prog W 0 (fun _ => true) true n 2 [c19] = some y19 := hf 19 _ rfl
  obtain ⟨a0, e0, _, w0⟩ := DataW.trod_int Yba.underlying5 f0
  obtain rfl := List.cons.inj e0 |>.1
  obtain ⟨a1, e1, _, w1⟩ := DataW.trod_int Yba.underlying5 f1
  obtain rfl := List.cons.inj e1 |>.1
  obtain ⟨a2, e2, _, w2⟩ := DataW.trod_int Yba.underlying5 f2
  obtain rfl := List.cons.inj e2 |>.1
  obtain ⟨a3, e3, _, w3⟩ := DataW.trod_int Yba.underlying5 f3
  obtain rfl := List.cons.inj e3 |>.1
  obtain ⟨a4, e4, _, w4⟩ := DataW.trod_int Yba.underlying5 f4
  obtain rfl := List.cons.inj e4 |>.1
  obtain ⟨q13, e13, _, w13⟩ := DataW.trod_int Yba.underlying23 f13
  obtain rfl := List.cons.inj e13 |>.1
  obtain ⟨q14, e14, _, w14⟩ := DataW.trod_int Yba.underlying23 f14
  obtain rfl := List.cons.inj e14 |>.1
  obtain ⟨n17, e17, _, w17⟩ := DataW.trod_int Yba.underlying2 f17
  obtain rfl := List.cons.inj e17 |>.1
  obtain ⟨n18, e18, _, w18⟩ := DataW.trod_int Yba.underlying2 f18
  obtain rfl := List.cons.inj e18 |>.1
  obtain ⟨n19, e19, _, w19⟩ := DataW.trod_int Yba.underlying2 f19
  obtain rfl := List.cons.inj e19 |>.1
  obtain ⟨b5, e5, _⟩ := DataW.trod_bool Yba.underlying4 f5
  obtain rfl := List.cons.inj e5 |>.1
  obtain ⟨b6, e6, _⟩ := DataW.trod_bool Yba.underlying4 f6
  obtain rfl := List.cons.inj e6 |>.1
  obtain ⟨b7, e7, _⟩ := DataW.trod_bool Yba.underlying4 f7
  obtain rfl := List.cons.inj e7 |>.1
  obtain ⟨b8, e8, _⟩ := DataW.trod_bool Yba.underlying4 f8
  obtain rfl := List.cons.inj e8 |>.1
  obtain ⟨b15, e15, _⟩ := DataW.trod_bool Yba.underlying4 f15
  obtain rfl := List.cons.inj e15 |>.1
  obtain ⟨b16, e16, _⟩ := DataW.trod_bool Yba.underlying4 f16
  obtain rfl := List.cons.inj e16 |>.1
  obtain ⟨p9, l9, k9, xs9, rfl, m9, i9, z9, t9⟩ := slice_field f9 (fun a len cap e => spot_of hv (k := 9) rfl (by rw [← e]; rfl))
  have g9 := weight_of hsz (k := 9) rfl rfl
  obtain ⟨p10, l10, k10, xs10, rfl, m10, i10, z10, t10⟩ := slice_field f10 (fun a len cap e => spot_of hv (k := 10) rfl (by rw [← e]; rfl))
  have g10 := weight_of hsz (k := 10) rfl rfl
  obtain ⟨p11, l11, k11, xs11, rfl, m11, i11, z11, t11⟩ := slice_field f11 (fun a len cap e => spot_of hv (k := 11) rfl (by rw [← e]; rfl))
  have g11 := weight_of hsz (k := 11) rfl rfl
  obtain ⟨p12, l12, k12, xs12, rfl, m12, i12, z12, t12⟩ := slice_field f12 (fun a len cap e => spot_of hv (k := 12) rfl (by rw [← e]; rfl))
  have g12 := weight_of hsz (k := 12) rfl rfl
  refine ⟨⟨a0, a1, a2, a3, a4, b5, b6, b7, b8, b15, b16, p9, p10, p11, p12, l9, k9, l10, k10, l11, k11, l12, k12, q13, q14, n17, n18, n19, xs9, xs10, xs11, xs12⟩, rfl, i9, i10, i11, i12, by rw [m9]; exact Nat.le_trans t9 g9, by rw [m10]; exact Nat.le_trans t10 g10, by rw [m11]; exact Nat.le_trans t11 g11, by rw [m12]; exact Nat.le_trans t12 g12, fun hs => ?_⟩
  simp only at hs
  have j9 : xs9.length ≤ 1048576 := by omega
  have j10 : xs10.length ≤ 1048576 := by omega
  have j11 : xs11.length ≤ 1048576 := by omega
  have j12 : xs12.length ≤ 1048576 := by omega
  exact ⟨wf_u8 w0, wf_u8 w1, wf_u8 w2, wf_u8 w3, wf_u8 w4, m9, m10, m11, m12, j9, j10, j11, j12, z9, z10, z11, z12, wf_i64 w17, wf_i64 w18, wf_i64 w19⟩
end

set_option maxRecDepth 100000 in
theorem lifted (os : Os) (started : os.Started) (H : Type) (enc : TypeId × Value → H) :
    ReturnsInHanded {} Yba.checked os 3 .any (Rows.lawS5814BWholeSpec.pre6 enc Yba.prog Yba.f3 Rows.lawS5814BWholeRow.domain false) (Rows.lawS5814BWholeSpec.post enc Yba.prog Yba.f3 false true false false) := by
  refine returnsInHanded_of_change_sized (C := Yba.checked) own started (by kernel_rfl) Yba.func3
    (ChangeSpec.witness6 (enc := enc) (C := Yba.checked) false ⟨#[], #[.agg (InC 0 0 0 0 0 false false false false false false (.slice none 0 0) (.slice none 0 0) (.slice none 0 0) (.slice none 0 0) 0 0 0 0 0)], []⟩ 8 (by kernel_rfl) (by kernel_rfl) (by kernel_rfl) (by kernel_rfl)) ?_
  intro W base args ds gs before hval0 hW hcnd hsz0 _
  have hval : ∀ (j : Nat) t v, Yba.f3.params[j]? = some t → args[j]? = some v → Value.okWide Yba.prog W .any base t v := hval0
  have hsz : (DataW.weightsEach Yba.prog (Yba.f3.params.toList ++ Rows.lawS5814BWholeSpec.plain.varTypes Yba.prog) (ds ++ gs)).all (· ≤ reachBytes) = true := hsz0
  have hW' := hW
  obtain ⟨p, q, hA0, hV, rfl, hfz, hnd⟩ := hW
  have hA : DataW.TrodAll enc Yba.prog W 0 (fun _ => true) true Yba.f3.params.toList args.toList ds p := hA0
  rw [Yba.params3] at hA hval hsz
  obtain ⟨v0, vs0, d0, ds0, p0, q0, hargs, rfl, rfl, h0, r0⟩ := trodAll_cons hA
  obtain ⟨rfl, rfl, rfl⟩ := trodAll_nil r0
  obtain rfl : args = #[v0] := by cases args; simp_all
  obtain ⟨rfl, rfl⟩ := trodVars_none hV
  have hv0 := hval 0 25 v0 rfl rfl
  obtain ⟨cs, rfl, _⟩ := okWide_struct Yba.underlying25 hv0
  have k0 := h0
  have lt0 : ∀ x ∈ p0, x.block < W.heap.size := by obtain ⟨m, hm⟩ := k0; exact DataW.trod_lt m _ _ _ hm
  obtain ⟨fuel, hf⟩ := h0
  obtain ⟨i, rfl, s9, s10, s11, s12, m9, m10, m11, m12, hok⟩ := open_in hv0 hf hsz
  clear hA0 hval0
  have walk : Calls Yba.prog 3 #[.agg i.cells] W fun e w' => e = .returned (.bool true) ∧ Below W.heap.size W w' := by
    by_cases hs : (i.l9 : Int) + i.l10 + i.l11 + i.l12 ≤ 1048576
    · exact law_small i (hok hs) W hs s9 s10 s11 s12
    · exact law_big i W (by omega) m9 m10 m11 m12
  refine walk.mono fun e W' ⟨he, bel⟩ => ?_
  subst he
  exact ⟨_, rfl, _, _, _, [], _, [], hW', trodAll_mk1 (shut_bool Yba.underlying4 _), (trodAll_cons_mk (Below.trod laidOut (by kernel_rfl) (of_decide_eq_true (by kernel_rfl)) k0 bel lt0) trodAll_mk0), rfl, bel.frame _, fun h => by cases h⟩

theorem over : Rows.lawS5814BWholeRow.holds Yba.pinned (OpenSpec.ofChange Rows.lawS5814BWholeSpec) :=
  OpenClaim.holds_of_wide 3 Yba.f3 rfl rfl rfl rfl rfl rfl rfl ⟨rfl, rfl, rfl, rfl, rfl⟩ rfl rfl rfl rfl rfl (by kernel_rfl) Yba.func3 (by kernel_rfl)
    (of_decide_eq_true (by kernel_rfl)) (by unfold Func.isWrapper; first | (rw [if_pos (by decide +kernel)]; kernel_rfl) | (rw [if_neg (by decide +kernel)]; exact ⟨rfl, rfl⟩))
    (fun os started H enc _ => lifted os started H enc)

/-- THE STATEMENT -/
theorem lawS5814BWhole.proved : Rows.LawS5814BWholeSaid := over
end Go.Proofs.Ybulkdpjq
