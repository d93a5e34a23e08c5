/-
  THE LAW S5810B: the input opened, the walk, the row's statement, the card.
-/
import Derived.Test.YbulkdphmDoorRows
import Derived.WalkKit
import Derived.ProofKit
import Derived.OpenShut
import Derived.Stop.Joined
import Derived.SizedLaws
import Derived.ChangeSlices
import Derived.ShutString
import Derived.ChangeOld
import Derived.Below
import Derived.LaidMore
import Derived.Test.YbulkdphmDoorLaid
import Derived.Lay
import Derived.Test.YbulkdphmDoorLaw
import Derived.Test.YbulkdphmDoorTie
import Derived.Test.YbulkdphmDoorCards
import Derived.SevenTiedAt
namespace Go.Proofs.YbulkdphmDoor
open Go.ChangeShapes Go.WideShapes Go.ChangeAt Go.RowKit
set_option maxRecDepth 100000

theorem laidOut : laidOutB Ybad.prog = true := by kernel_rfl
theorem n5 : Ybad.prog.cellsOf 5 = 1 := by kernel_rfl
theorem wf_u8 {n : Int} (h : (Lit.int .u8 n).wf = true) : 0 ≤ n ∧ n < 256 := by
  have e1 : IntKind.u8.min = 0 := rfl
  have e2 : IntKind.u8.max = 255 := rfl
  have h2 : 0 ≤ n ∧ n ≤ 255 := by simpa [Lit.wf, e1, e2] using h
  omega

theorem spot_of {W : World} {base : Nat} {a : Addr} {len cap : Nat} (hv : Value.okWide Ybad.prog W .any base 22 (.slice (some a) len cap)) : a.spot = none := by
  simp only [Value.okWide, Ybad.underlying22, Cell.okWide, Cell.ok] at hv
  exact hv.2.2.2.1

/-- The walk at every input that the statement speaks of. -/
theorem walk {H : Type} {enc : TypeId × Value → H} {W : World} {base : Nat} {v : Value} {d : DataW H} {p : List MemPlace} {sel md : Int} (hv : Value.okWide Ybad.prog W .any base 22 v)
    (h : DataW.Trod enc Ybad.prog W 0 (fun _ => true) true 22 v d p) (hs : (Lit.int .u8 sel).wf = true) (hm : (Lit.int .u8 md).wf = true) (hL : laidMetH Ybad.prog Rows.lawS5810BWholeRow.laid W) :
    Calls Ybad.prog 3 #[v, .int .u8 sel, .int .u8 md] W fun e w' => e = .returned (.bool true) ∧ Below W.heap.size W w' := by
  obtain ⟨s0, s1⟩ := wf_u8 hs
  obtain ⟨m0, m1⟩ := wf_u8 hm
  obtain ⟨s, rfl⟩ : ∃ s : Nat, sel = (s : Nat) := ⟨sel.toNat, by omega⟩
  obtain ⟨m, rfl⟩ : ∃ m : Nat, md = (m : Nat) := ⟨md.toNat, by omega⟩
  have s2 : s < 256 := by omega
  have m2 : m < 256 := by omega
  obtain ⟨tab, a4, a6, zs⟩ := of_laid hL
  have tz : ∀ w', Below W.heap.size W w' → Tab w' ∧ Zs w' a4 a6 := fun w' hb => ⟨tab.on hb, zs.on hb⟩
  have hvs : ∃ p l c, v = .slice p l c := by
    simp only [Value.okWide, Ybad.underlying22, Cell.okWide] at hv
    cases v <;> simp_all [Cell.ok, Ybad.underlying22]
  obtain ⟨q, l, c, rfl⟩ := hvs
  obtain ⟨fuel, hf⟩ := h
  have hf' : DataW.trod enc Ybad.prog W 0 (fun _ => true) true fuel 22 [.slice q l c] = some (d, p) := hf
  rcases open_ints Ybad.underlying22 Ybad.underlying5 n5 hf' with ⟨hcs, _⟩ | ⟨a, l', c', zs', hcs, _, hl, _, hz, _, hcell, hwz⟩
  · obtain ⟨rfl, rfl, rfl⟩ : q = none ∧ l = 0 ∧ c = 0 := by simpa using hcs
    rcases Nat.lt_or_ge s 224 with h1 | h1
    · exact law_nil_lo W s m s2 m2 h1
    · exact law_nil_hi W s m s2 m2 h1
  · obtain ⟨rfl, rfl, rfl⟩ : q = some a ∧ l = l' ∧ c = c' := by simpa using hcs
    rcases Nat.lt_or_ge 1048576 l with hb | hb
    · exact law_big _ _ _ _ _ W hb
    have hsp := spot_of hv
    obtain ⟨b, off, spot⟩ := a
    obtain rfl : spot = none := hsp
    have hzl : zs'.length = c := by simpa using hz
    have hx : (zs'.take l).length = l := by simp; omega
    have raw : Bytes W b off l (zs'.take l) := by
      refine ⟨hx.symm, fun z hzz => wf_u8 (hwz z (List.mem_of_mem_take hzz)), fun i hi => ?_⟩
      have h1 := hcell i (by omega)
      have e : (zs'.take l).getD i 0 = zs'.getD i 0 := by simp [List.getD, hi]
      rw [e, ← h1]
      unfold Addr.add
      split
      · next h0 => subst h0; rfl
      · rfl
    rcases Nat.lt_or_ge s 224 with h1 | h1
    · exact law_some_lo W b off c l _ raw hb a4 a6 tz s m s2 m2 h1
    · exact law_some_hi W b off c l _ raw hb a4 a6 tz s m s2 m2 h1

theorem lifted (os : Os) (started : os.Started) (H : Type) (enc : TypeId × Value → H) :
    ReturnsInHanded {} Ybad.checked os 3 .any (fun w args => (Rows.lawS5810BWholeSpec.pre enc Ybad.prog Ybad.f3 [] false w args ∧ laidMetH Ybad.prog Rows.lawS5810BWholeRow.laid w) ∧ sizedMet enc Ybad.prog Ybad.f3 (OpenSpec.ofChange Rows.lawS5810BWholeSpec) false w args)
      (Rows.lawS5810BWholeSpec.post enc Ybad.prog Ybad.f3 false true false false) := by
  refine returnsInHanded_of_change_and (C := Ybad.checked) (X := fun w _ => laidMetH Ybad.prog Rows.lawS5810BWholeRow.laid w) (fun _ _ _ hh h => h.of_heap hh) own started (by kernel_rfl) Ybad.func3
    (ChangeSpec.witness_shaped (enc := enc) (C := Ybad.checked) (os := os) (X := fun w _ => laidMetH Ybad.prog Rows.lawS5810BWholeRow.laid w) false (World.laidAll Ybad.prog os Rows.lawS5810BWholeRow.laid) #[.slice none 0 0, .int .u8 0, .int .u8 0] 8 (World.laidAll_os _ _ _)
      (World.shaped_of_ZipB (by kernel_rfl) (by kernel_rfl)) (by kernel_rfl) (by kernel_rfl) (by kernel_rfl)
      (by rw [MakeChecks.laidMetH_plain _ _ _ (by kernel_rfl)]; exact laidMet_laidAll _ (by kernel_rfl) (by kernel_rfl))) ?_
  intro W base args ds gs before hval0 hW _ _ hL _
  have hval : ∀ (j : Nat) t v, Ybad.f3.params[j]? = some t → args[j]? = some v → Value.okWide Ybad.prog W .any base t v := hval0
  have hW' := hW
  obtain ⟨p, q, hA0, hV, rfl, hfz, hnd⟩ := hW
  have hA : DataW.TrodAll enc Ybad.prog W 0 (fun _ => true) true Ybad.f3.params.toList args.toList ds p := hA0
  rw [Ybad.params3] at hA hval
  obtain ⟨v0, v1, v2, d0, d1, d2, p0, p1, p2, rfl, rfl, rfl, h0, h1, h2⟩ := trodAll_three hA
  obtain ⟨rfl, rfl⟩ := trodVars_none hV
  obtain ⟨sel, rfl, rfl, rfl, ws⟩ := open_int Ybad.underlying5 (hval 1 5 v1 rfl rfl) h1
  obtain ⟨md, rfl, rfl, rfl, wm⟩ := open_int Ybad.underlying5 (hval 2 5 v2 rfl rfl) h2
  have lt0 : ∀ x ∈ p0, x.block < W.heap.size := by obtain ⟨m, hm⟩ := h0; exact DataW.trod_lt m _ _ _ hm
  refine (walk (hval 0 22 v0 rfl rfl) h0 ws wm hL).mono fun e W' ⟨he, bel⟩ => ?_
  subst he
  exact ⟨_, rfl, _, _, _, [], _, [], hW', trodAll_mk1 (shut_bool Ybad.underlying4 _), (trodAll_cons_mk (Below.trod laidOut (by kernel_rfl) (of_decide_eq_true (by kernel_rfl)) h0 bel lt0) (trodAll_cons_mk (shut_int Ybad.underlying5 ws) (trodAll_cons_mk (shut_int Ybad.underlying5 wm) trodAll_mk0))), rfl, bel.frame _, fun h => by cases h⟩

theorem over : Rows.LawS5810BWholeSaid :=
  OpenClaim.holds_of_wide 3 Ybad.f3 rfl rfl rfl rfl rfl rfl rfl ⟨rfl, rfl, rfl, rfl, rfl⟩ rfl rfl rfl rfl rfl (by kernel_rfl) Ybad.func3 (by kernel_rfl)
    (of_decide_eq_true (by kernel_rfl)) (by unfold Func.isWrapper; first | (rw [if_pos (by decide +kernel)]; kernel_rfl) | (rw [if_neg (by decide +kernel)]; exact ⟨rfl, rfl⟩))
    (fun os started H enc _ => lifted os started H enc)

/-- THE STATEMENT -/
theorem lawS5810BWhole.proved : Rows.LawS5810BWholeCardSaid :=
  Claim7.holds_tied_plain_at .later [] [.data, .data, .data, .called, .called, .zero] true (true, "b9fd4b252bc9302dbd4aed9f5239e96d46d48a85e646b950b4ab733931cdc107") false
    over (fun _ h => by cases h) (by kernel_rfl) (fun _ h => by cases h) lawS5810BWhole_row_tie rfl ⟨rfl, rfl⟩ (by kernel_rfl) rfl
    (fun f fn hf hfn => by
      obtain rfl : f = 3 := Option.some.inj ((show Ybad.prog.funcNamed "example.com/rootsift/rootsift/snmp.LawS5810BWhole" = some 3 by kernel_rfl).symm.trans hf) |>.symm
      obtain rfl : fn = Ybad.f3 := (Option.some.inj (Ybad.func3.symm.trans hfn)).symm
      exact ⟨by kernel_rfl, fun j t ht => by
        rw [Ybad.params3] at ht
        have h3 : t = 22 ∨ t = 5 := by
          rcases j with _ | _ | _ | j
          · exact .inl (by simpa using ht.symm)
          · exact .inr (by simpa using ht.symm)
          · exact .inr (by simpa using ht.symm)
          · simp at ht
        rcases h3 with rfl | rfl
        · exact (show Ybad.prog.wantsStandIn 22 = false by kernel_rfl)
        · exact (show Ybad.prog.wantsStandIn 5 = false by kernel_rfl)⟩)
    (by kernel_rfl)
end Go.Proofs.YbulkdphmDoor
