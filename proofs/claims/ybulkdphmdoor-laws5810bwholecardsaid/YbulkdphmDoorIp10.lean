/-
  Addr.appendTo6.
-/
import Derived.Test.YbulkdphmDoorRows
import Derived.WalkKit
import Derived.ProofKit
import Derived.OpenShut
import Derived.WalkLawsBesides
import Derived.BigQuiet
import Derived.Laws.BitsAllLaws
import Derived.Laws.StructEq
import Derived.Outline
import Derived.Test.YbulkdphmDoorIp9
import Derived.Deep.RegionWith
import Derived.Deep.RegionHeld3
import Derived.Deep.DeepCutAuto
import Derived.Deep.DrawnRows
import Derived.Handy
import Derived.Laws.ResultCell
namespace Go.Proofs.YbulkdphmDoor
open Go.ChangeShapes Go.WideShapes Go.ChangeAt Go.RowKit
open Go.ChangeMaps (setBlock)
set_option linter.unusedVariables false
set_option linter.unusedSimpArgs false


open Go.Lib (byteCells decDigits)
/-- append(b, ':', ':') -/
theorem wpList_colons {ops : Array Oper} {rest : List Oper} {o : Oper} {a : Act} {Q : Exit → Act → World → Prop} {w : World} (hgd : o.guard = none) (s x : Operand)
    (ho : o.op = .call { callee := .builtin .append, args := #[s, x], argTypes := #[22, 22] }) (B : Nat) (v : Value) (l : List UInt8) (hs : a.eval s = v) (hx : a.eval x = .slice (some ⟨w.heap.size, 0, none⟩) 2 2)
    (hown : w.ownsRow B 5 1 v l.length (byteCells l)) (hB : B ≤ w.heap.size) (hlim : l.length ≤ 1000)
    (h : ∀ v' w', Ow B v' (l ++ [58, 58]) w w' → wpList Ybad.prog ops Q rest (a.put o.dst v') w') :
    wpList Ybad.prog ops Q (o :: rest) a (w.alloc (.cells #[.int .u8 58, .int .u8 58] 5)) := by
  obtain ⟨i0, hi, hz0, hz1, hz2⟩ := info_parts info5
  refine wpList_append_own _ hgd s x 22 ho B 5 i0 (.int .u8 0) 1 1 Ybad.underlying22 hi hz0 hz1 hz2 rfl (by decide) v _ _ hs (hown.alloc _) ⟨w.heap.size, 0, none⟩ 2 2 [Value.int .u8 58, Value.int .u8 58] hx rfl (by intro j u' hj; match j, hj with | 0, hj => simp at hj; subst hj; simp [Addr.add] | 1, hj => simp at hj; subst hj; simp [Addr.add]) (by intro u' hu'; simp at hu'; subst hu'; rfl) (by unfold maxLen; omega) (by omega) (by simp; omega) ?_
  intro v' w' ho' hg _
  refine h v' w' ⟨?_, ?_, ?_⟩
  · have e : byteCells l ++ [Value.int .u8 58, Value.int .u8 58] = byteCells (l ++ [58, 58]) := by rw [Lib.byteCells_append]; rfl
    rw [← e, List.length_append]
    exact ho'
  · exact ((Below.refl B w).alloc hB _).grown hg (by simp; omega) (fun k hk => (hown.lt k hk).1)
  · refine ((Lib.OthersKept.refl 5 none w).alloc _).grown hg (fun g hgk => ?_)
    obtain ⟨c, fz, hc⟩ := Lib.ownsRow_kind hown g hgk
    exact ⟨c, fz, (Lib.alloc_old w _ g (lt_of_block hc)).trans hc⟩

set_option maxRecDepth 100000 in
set_option maxHeartbeats 6400000 in
/-- Addr.appendTo6: some text. -/
theorem to6 (B hi lo : Nat) (hhi : hi < 18446744073709551616) (hlo : lo < 18446744073709551616) (v : Value) (w : World) (a4 a6 : Addr) (hown : w.ownsRow B 5 1 v ([] : List UInt8).length (byteCells [])) (hB : B ≤ w.heap.size) (hZB : Hid (∀ w', Below B w w' → Zs w' a4 a6)) :
    Calls Ybad.prog 37 #[adr hi lo (some a6), v] w fun e w' => ∃ v', e = .returned v' ∧ ∃ l' : List UInt8, 0 < l'.length ∧ Ow B v' l' w w' := by
  obtain ⟨tb, htb⟩ : ∃ tb, tb = w.heap.size := ⟨_, rfl⟩
  obtain ⟨W0, hW0⟩ : ∃ W0, W0 = w.alloc (.cells #[.int .u64 (hi : Int), .int .u64 (lo : Int), .pointer (some a6)] 59) := ⟨_, rfl⟩
  have hbx : W0.heap[tb]? = some (.cells #[.int .u64 (hi : Int), .int .u64 (lo : Int), .pointer (some a6)] 59) := by rw [hW0]; exact hp_alloc_at htb
  have h0 : Ow B v [] w W0 := by rw [hW0]; exact (Ow.refl hown).on hB ((Below.refl _ _).alloc (Nat.le_refl _) _)
  have H0 := hide h0
  have HW0 := hide hW0
  have HBX := hide hbx
  have HTB := hide htb
  clear hown h0 hW0 hbx htb
  go_enter Ybad.func37, Ybad.ntmps37
  go_upto_region 1 with fail
  rw [← HTB.out, ← HW0.out]
  go_wp2_with fail
  go_loopw [5, 6, 7] (fun vs ve vi wr => ∃ i s e : Nat, i ≤ 8 ∧ ((s = 255 ∧ e = 255) ∨ (s < e ∧ e ≤ 8)) ∧ vi = .int .u8 i ∧ vs = .int .u8 s ∧ ve = .int .u8 e ∧ Hid (Ow B v [] w wr ∧ wr.heap[tb]? = some (.cells #[.int .u64 (hi : Int), .int .u64 (lo : Int), .pointer (some a6)] 59))) (fun _ _ vi _ => 8 - (intOf vi).toNat)
  case atStart => exact ⟨0, 255, 255, by omega, Or.inl ⟨rfl, rfl⟩, rfl, rfl, rfl, H0.out, HBX.out⟩
  case round =>
    obtain ⟨i, s, e, hi8, hse, rfl, rfl, rfl, hI⟩ := hrel
    by_cases hlt : i < 8
    · have hlt' : (i : Int) < 8 := by omega
      have HI1 := hide hI.out.1
      have HI2 := hide hI.out.2
      clear hI
      go_wp2_with fail
      go_loopw [8] (fun vj w2 => ∃ j : Nat, i ≤ j ∧ j ≤ 8 ∧ vj = .int .u8 j ∧ Hid (Ow B v [] w w2 ∧ w2.heap[tb]? = some (.cells #[.int .u64 (hi : Int), .int .u64 (lo : Int), .pointer (some a6)] 59))) (fun vj _ => 8 - (intOf vj).toNat)
      case atStart => exact ⟨i, Nat.le_refl _, by omega, rfl, HI1.out, HI2.out⟩
      case round =>
        obtain ⟨j, hij, hj8, rfl, hJ⟩ := hrel
        have HJ := hide hJ.out.1
        have HX := hide hJ.out.2
        clear hJ
        have HSZ : Hid (B ≤ wr.heap.size) := HJ.out.sz hB
        have finish : ∀ (Wn : World), Ow B v [] w Wn → Wn.heap[tb]? = some (.cells #[.int .u64 (hi : Int), .int .u64 (lo : Int), .pointer (some a6)] 59) → True := fun _ _ _ => trivial
        clear finish
        by_cases hjl : j < 8
        · have hjl' : (j : Int) < 8 := by omega
          have c0 : wr.cell? ⟨tb, 0, none⟩ = some (.int .u64 (hi : Int)) := cell_at HX.out rfl
          have c1 : wr.cell? ⟨tb, 1, none⟩ = some (.int .u64 (lo : Int)) := cell_at HX.out rfl
          have c2 : wr.cell? ⟨tb, 2, none⟩ = some (.pointer (some a6)) := cell_at HX.out rfl
          have HV : Hid (Calls Ybad.prog 49 #[adr hi lo (some a6), .int .u8 (j : Int)] wr fun e w' => ∃ x : Nat, e = .returned (.int .u16 (x : Int)) ∧ (Ow B v [] w w' ∧ w'.heap[tb]? = some (.cells #[.int .u64 (hi : Int), .int .u64 (lo : Int), .pointer (some a6)] 59))) := by
            refine (v6_any hi lo j (some a6) wr hhi hlo hjl).mono ?_
            rintro e w' ⟨x, he, hx, hbw⟩
            exact ⟨x, he, HJ.out.on HSZ.out hbw, (hbw.block tb (lt_of_block HX.out)).trans HX.out⟩
          go_upto_region 8 with (go_at_call 49; refine HV.out.mono ?_; rintro e1 W2 ⟨x, rfl, hh⟩; have HE := hide hh.1; have HF := hide hh.2; clear hh)
          · clear c0 c1 c2
            go_roundw
            case rel => exact ⟨j + 1, by omega, by omega, by go_num, HE.out, HF.out⟩
            case measure => simp [intOf]; omega
          · clear c0 c1 c2
            obtain ⟨D, hD⟩ : ∃ D, D = j - i := ⟨_, rfl⟩
            have hd1 : IntKind.u8.wrap ((j : Int) - (i : Int)) = (D : Int) := by rw [IntKind.wrap_u8]; omega
            have hd2 : ((j : Int) - (i : Int)) = (D : Int) := by omega
            obtain ⟨E, hE⟩ : ∃ E, E = e - s := ⟨_, rfl⟩
            have he1 : IntKind.u8.wrap ((e : Int) - (s : Int)) = (E : Int) := by rw [IntKind.wrap_u8]; omega
            have he2 : ((e : Int) - (s : Int)) = (E : Int) := by omega
            by_cases hD2 : 2 ≤ D
            · have hD2' : (2 : Int) ≤ (D : Int) := by omega
              by_cases hDE : E < D
              · have hDE' : (E : Int) < (D : Int) := by omega
                have hnew : (i = 255 ∧ j = 255) ∨ (i < j ∧ j ≤ 8) := Or.inr ⟨by omega, by omega⟩
                clear hD hE
                go_wp2_with fail
                go_roundw
                case rel => exact ⟨i + 1, i, j, by omega, hnew, by go_num, rfl, rfl, HE.out, HF.out⟩
                case measure => simp [intOf]; omega
              · have hDE' : ¬ (E : Int) < (D : Int) := by omega
                clear hD hE
                go_wp2_with fail
                go_roundw
                case rel => exact ⟨i + 1, s, e, by omega, hse, by go_num, rfl, rfl, HE.out, HF.out⟩
                case measure => simp [intOf]; omega
            · have hD2' : ¬ (2 : Int) ≤ (D : Int) := by omega
              clear hD hE
              go_wp2_with fail
              go_roundw
              case rel => exact ⟨i + 1, s, e, by omega, hse, by go_num, rfl, rfl, HE.out, HF.out⟩
              case measure => simp [intOf]; omega
        · obtain rfl : 8 = j := by omega
          have hjl' : ¬ ((8 : Nat) : Int) < 8 := by omega
          have HE := HJ
          have HF := HX
          clear HJ HX
          obtain ⟨D, hD⟩ : ∃ D, D = 8 - i := ⟨_, rfl⟩
          have hd1 : IntKind.u8.wrap ((8 : Int) - (i : Int)) = (D : Int) := by rw [IntKind.wrap_u8]; omega
          have hd2 : ((8 : Int) - (i : Int)) = (D : Int) := by omega
          obtain ⟨E, hE⟩ : ∃ E, E = e - s := ⟨_, rfl⟩
          have he1 : IntKind.u8.wrap ((e : Int) - (s : Int)) = (E : Int) := by rw [IntKind.wrap_u8]; omega
          have he2 : ((e : Int) - (s : Int)) = (E : Int) := by omega
          by_cases hD2 : 2 ≤ D
          · have hD2' : (2 : Int) ≤ (D : Int) := by omega
            by_cases hDE : E < D
            · have hDE' : (E : Int) < (D : Int) := by omega
              have hnew : (i = 255 ∧ 8 = 255) ∨ (i < 8 ∧ 8 ≤ 8) := Or.inr ⟨by omega, by omega⟩
              clear hD hE
              go_wp2_with fail
              go_roundw
              case rel => exact ⟨i + 1, i, 8, by omega, hnew, by go_num, rfl, rfl, HE.out, HF.out⟩
              case measure => simp [intOf]; omega
            · have hDE' : ¬ (E : Int) < (D : Int) := by omega
              clear hD hE
              go_wp2_with fail
              go_roundw
              case rel => exact ⟨i + 1, s, e, by omega, hse, by go_num, rfl, rfl, HE.out, HF.out⟩
              case measure => simp [intOf]; omega
          · have hD2' : ¬ (2 : Int) ≤ (D : Int) := by omega
            clear hD hE
            go_wp2_with fail
            go_roundw
            case rel => exact ⟨i + 1, s, e, by omega, hse, by go_num, rfl, rfl, HE.out, HF.out⟩
            case measure => simp [intOf]; omega
    · have hlt' : ¬ (i : Int) < 8 := by omega
      have HI1 := hide hI.out.1
      have HI2 := hide hI.out.2
      clear hI
      go_wp2_with fail
      go_loopw [1, 10] (fun vr vi w5 => ∃ (i : Nat) (l : List UInt8), i ≤ 8 ∧ vi = .int .u8 i ∧ Hid (Ow B vr l w w5 ∧ w5.heap[tb]? = some (.cells #[.int .u64 (hi : Int), .int .u64 (lo : Int), .pointer (some a6)] 59) ∧ l.length ≤ 6 * i ∧ (0 < i → 0 < l.length))) (fun _ vi _ => 8 - (intOf vi).toNat)
      case atStart => exact ⟨0, [], by omega, rfl, HI1.out, HI2.out, by simp, by omega⟩
      case round =>
        obtain ⟨i, l, hi8', rfl, hL⟩ := hrel
        have HO := hide hL.out.1
        have HX := hide hL.out.2.1
        have hll := hL.out.2.2.1
        have HPos := hide hL.out.2.2.2
        clear hL
        have HSW : Hid (B ≤ wr.heap.size) := HO.out.sz hB
        by_cases hil : i < 8
        · have hil' : (i : Int) < 8 := by omega
          by_cases his : i = s
          · have his' : ((i : Int) == (s : Int)) = true := by simp [his]
            have hse' : s < e ∧ e ≤ 8 := by omega
            have hie : i < e := by omega
            clear his
            go_upto_region 16 with (at_builtin; refine wpList_colons rfl _ _ rfl B u1 l rfl rfl HO.out.1 HSW.out (by omega) ?_; intro v6 W6 hh; have H6 := hide (Ow.trans HO.out hh); have HX6 := hide (hh.box HX.out (by decide)); clear hh)
            by_cases he8 : e = 8
            · have he8' : (8 : Int) ≤ (e : Int) := by omega
              clear he8
              have d2 : W6.cell? ⟨tb, 2, none⟩ = some (.pointer (some a6)) := cell_at HX6.out rfl
              have z6 := (hZB.out W6 H6.out.2.1).z6
              have k : (Op.equalIn 9999 55 (.pointer (some a6)) (.pointer (some a6))).run Ybad.prog W6 = .ok true W6 := eqP_same 9998 _ _
              go_wp2_with fail
              go_ret
              exact ⟨_, rfl, _, by simp, H6.out⟩
            · have he8' : ¬ (8 : Int) ≤ (e : Int) := by omega
              go_upto_region 20 with fail
              have HSY : Hid (B ≤ W6.heap.size) := H6.out.sz hB
              have c0 : W6.cell? ⟨tb, 0, none⟩ = some (.int .u64 (hi : Int)) := cell_at HX6.out rfl
              have c1 : W6.cell? ⟨tb, 1, none⟩ = some (.int .u64 (lo : Int)) := cell_at HX6.out rfl
              have c2 : W6.cell? ⟨tb, 2, none⟩ = some (.pointer (some a6)) := cell_at HX6.out rfl
              have HV : Hid (Calls Ybad.prog 49 #[adr hi lo (some a6), .int .u8 (e : Int)] W6 fun e w' => ∃ x : Nat, e = .returned (.int .u16 (x : Int)) ∧ (x < 65536 ∧ Below W6.heap.size W6 w')) := by
                refine (v6_any hi lo e (some a6) W6 hhi hlo (by omega)).mono ?_
                rintro e w' ⟨x, he, hx, hbw⟩
                exact ⟨x, he, hx, hbw⟩
              have HHX : Hid (∀ (x : Nat) w', x < 65536 → Below W6.heap.size W6 w' → Calls Ybad.prog 50 #[v6, .int .u16 (x : Int)] w' fun e w'' => ∃ v', e = .returned v' ∧ ∃ l2 : List UInt8, l2.length ≤ (l ++ [58, 58]).length + 4 ∧ 0 < l2.length ∧ Ow B v' l2 w w'' ∧ w''.heap[tb]? = some (.cells #[.int .u64 (hi : Int), .int .u64 (lo : Int), .pointer (some a6)] 59)) := by
                intro x w' hx hbw
                have ho := H6.out.on HSY.out hbw
                refine (appHex B v6 (l ++ [58, 58]) x w' ho.1 (Nat.le_trans HSY.out hbw.size) (by (try simp only [List.length_append, List.length_cons, List.length_nil]); omega) hx).mono ?_
                rintro e w'' ⟨v', he, l2, h1, h2, hk⟩
                exact ⟨v', he, l2, h1, h2, ho.trans hk, hk.box ((hbw.block tb (lt_of_block HX6.out)).trans HX6.out) (by decide)⟩
              go_wp2_with (first | (go_at_call 49; refine HV.out.mono ?_; rintro e1 W8 ⟨x, rfl, hh⟩; have H8 := hide hh; clear hh) | (go_at_call 50; refine (HHX.out _ _ H8.out.1 H8.out.2).mono ?_; rintro e2 W9 ⟨v9, rfl, l9, hh⟩; have H9 := hide hh; clear hh))
              go_roundw
              case rel => exact ⟨e + 1, l9, by omega, by go_num, H9.out.2.2.1, H9.out.2.2.2, (by have := H9.out.1; (try simp only [List.length_append, List.length_cons, List.length_nil] at this); omega), fun _ => H9.out.2.1⟩
              case measure => simp [intOf]; omega
          · have his' : ((i : Int) == (s : Int)) = false := by simp; omega
            by_cases hi0 : 0 < i
            · have hi0' : (0 : Int) < (i : Int) := by omega
              go_upto_region 20 with (at_builtin; refine wpList_byte rfl _ _ rfl B u1 l 58 rfl rfl HO.out.1 HSW.out (by omega) ?_; intro v6 W6 ho hbl hk; have H6 : Hid (Ow B v6 (l ++ [58]) w W6) := (Ow.trans HO.out ⟨ho, hbl, hk⟩); have HX6 : Hid (W6.heap[tb]? = some (.cells #[.int .u64 (hi : Int), .int .u64 (lo : Int), .pointer (some a6)] 59)) := (Ow.box (B := B) (v := v6) (l := l ++ [58]) ⟨ho, hbl, hk⟩ HX.out (by decide)); clear ho hbl hk)
              have HSY : Hid (B ≤ W6.heap.size) := H6.out.sz hB
              have c0 : W6.cell? ⟨tb, 0, none⟩ = some (.int .u64 (hi : Int)) := cell_at HX6.out rfl
              have c1 : W6.cell? ⟨tb, 1, none⟩ = some (.int .u64 (lo : Int)) := cell_at HX6.out rfl
              have c2 : W6.cell? ⟨tb, 2, none⟩ = some (.pointer (some a6)) := cell_at HX6.out rfl
              have HV : Hid (Calls Ybad.prog 49 #[adr hi lo (some a6), .int .u8 (i : Int)] W6 fun e w' => ∃ x : Nat, e = .returned (.int .u16 (x : Int)) ∧ (x < 65536 ∧ Below W6.heap.size W6 w')) := by
                refine (v6_any hi lo i (some a6) W6 hhi hlo (by omega)).mono ?_
                rintro e w' ⟨x, he, hx, hbw⟩
                exact ⟨x, he, hx, hbw⟩
              have HHX : Hid (∀ (x : Nat) w', x < 65536 → Below W6.heap.size W6 w' → Calls Ybad.prog 50 #[v6, .int .u16 (x : Int)] w' fun e w'' => ∃ v', e = .returned v' ∧ ∃ l2 : List UInt8, l2.length ≤ (l ++ [58]).length + 4 ∧ 0 < l2.length ∧ Ow B v' l2 w w'' ∧ w''.heap[tb]? = some (.cells #[.int .u64 (hi : Int), .int .u64 (lo : Int), .pointer (some a6)] 59)) := by
                intro x w' hx hbw
                have ho := H6.out.on HSY.out hbw
                refine (appHex B v6 (l ++ [58]) x w' ho.1 (Nat.le_trans HSY.out hbw.size) (by (try simp only [List.length_append, List.length_cons, List.length_nil]); omega) hx).mono ?_
                rintro e w'' ⟨v', he, l2, h1, h2, hk⟩
                exact ⟨v', he, l2, h1, h2, ho.trans hk, hk.box ((hbw.block tb (lt_of_block HX6.out)).trans HX6.out) (by decide)⟩
              go_wp2_with (first | (go_at_call 49; refine HV.out.mono ?_; rintro e1 W8 ⟨x, rfl, hh⟩; have H8 := hide hh; clear hh) | (go_at_call 50; refine (HHX.out _ _ H8.out.1 H8.out.2).mono ?_; rintro e2 W9 ⟨v9, rfl, l9, hh⟩; have H9 := hide hh; clear hh))
              go_roundw
              case rel => exact ⟨i + 1, l9, by omega, by go_num, H9.out.2.2.1, H9.out.2.2.2, (by have := H9.out.1; (try simp only [List.length_append, List.length_cons, List.length_nil] at this); omega), fun _ => H9.out.2.1⟩
              case measure => simp [intOf]; omega
            · have hi0' : ¬ (0 : Int) < (i : Int) := by omega
              go_upto_region 20 with fail
              have HSY : Hid (B ≤ wr.heap.size) := HO.out.sz hB
              have c0 : wr.cell? ⟨tb, 0, none⟩ = some (.int .u64 (hi : Int)) := cell_at HX.out rfl
              have c1 : wr.cell? ⟨tb, 1, none⟩ = some (.int .u64 (lo : Int)) := cell_at HX.out rfl
              have c2 : wr.cell? ⟨tb, 2, none⟩ = some (.pointer (some a6)) := cell_at HX.out rfl
              have HV : Hid (Calls Ybad.prog 49 #[adr hi lo (some a6), .int .u8 (i : Int)] wr fun e w' => ∃ x : Nat, e = .returned (.int .u16 (x : Int)) ∧ (x < 65536 ∧ Below wr.heap.size wr w')) := by
                refine (v6_any hi lo i (some a6) wr hhi hlo (by omega)).mono ?_
                rintro e w' ⟨x, he, hx, hbw⟩
                exact ⟨x, he, hx, hbw⟩
              have HHX : Hid (∀ (x : Nat) w', x < 65536 → Below wr.heap.size wr w' → Calls Ybad.prog 50 #[u1, .int .u16 (x : Int)] w' fun e w'' => ∃ v', e = .returned v' ∧ ∃ l2 : List UInt8, l2.length ≤ (l).length + 4 ∧ 0 < l2.length ∧ Ow B v' l2 w w'' ∧ w''.heap[tb]? = some (.cells #[.int .u64 (hi : Int), .int .u64 (lo : Int), .pointer (some a6)] 59)) := by
                intro x w' hx hbw
                have ho := HO.out.on HSY.out hbw
                refine (appHex B u1 (l) x w' ho.1 (Nat.le_trans HSY.out hbw.size) (by (try simp only [List.length_append, List.length_cons, List.length_nil]); omega) hx).mono ?_
                rintro e w'' ⟨v', he, l2, h1, h2, hk⟩
                exact ⟨v', he, l2, h1, h2, ho.trans hk, hk.box ((hbw.block tb (lt_of_block HX.out)).trans HX.out) (by decide)⟩
              go_wp2_with (first | (go_at_call 49; refine HV.out.mono ?_; rintro e1 W8 ⟨x, rfl, hh⟩; have H8 := hide hh; clear hh) | (go_at_call 50; refine (HHX.out _ _ H8.out.1 H8.out.2).mono ?_; rintro e2 W9 ⟨v9, rfl, l9, hh⟩; have H9 := hide hh; clear hh))
              go_roundw
              case rel => exact ⟨i + 1, l9, by omega, by go_num, H9.out.2.2.1, H9.out.2.2.2, (by have := H9.out.1; (try simp only [List.length_append, List.length_cons, List.length_nil] at this); omega), fun _ => H9.out.2.1⟩
              case measure => simp [intOf]; omega
        · obtain rfl : 8 = i := by omega
          have hpos := HPos.out (by omega)
          have d2 : wr.cell? ⟨tb, 2, none⟩ = some (.pointer (some a6)) := cell_at HX.out rfl
          have z6 := (hZB.out wr HO.out.2.1).z6
          have k : (Op.equalIn 9999 55 (.pointer (some a6)) (.pointer (some a6))).run Ybad.prog wr = .ok true wr := eqP_same 9998 _ _
          go_wp2_with fail
          go_ret
          exact ⟨_, rfl, _, hpos, HO.out⟩
end Go.Proofs.YbulkdphmDoor
