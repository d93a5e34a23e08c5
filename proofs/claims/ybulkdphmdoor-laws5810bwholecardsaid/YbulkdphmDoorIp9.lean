/-
  Addr.Unmap, appendTo4In6.
-/
import Derived.Test.YbulkdphmDoorRows
import Derived.WalkKit
import Derived.ProofKit
import Derived.OpenShut
import Derived.WalkLawsBesides
import Derived.BigQuiet
import Derived.Laws.BitsAllLaws
import Derived.Laws.StructEq
import Derived.Outline
import Derived.Test.YbulkdphmDoorIp8
import Derived.Deep.RegionWith
import Derived.Deep.RegionHeld3
import Derived.Deep.DeepCutAuto
import Derived.Deep.DrawnRows
import Derived.Handy
import Derived.Laws.ResultCell
namespace Go.Proofs.YbulkdphmDoor
open Go.ChangeShapes Go.WideShapes Go.ChangeAt Go.RowKit
open Go.ChangeMaps (setBlock)
set_option linter.unusedVariables false
set_option linter.unusedSimpArgs false


open Go.Lib (byteCells decDigits)
set_option maxRecDepth 100000 in
set_option maxHeartbeats 1600000 in
/-- Addr.Unmap of an IPv4-mapped address. -/
theorem unmap (hi lo : Nat) (h46 : ((hi == 0) && (lo / 4294967296 == 65535)) = true) (w : World) (a4 a6 : Addr) (Z : Zs w a4 a6) : Calls Ybad.prog 47 #[adr hi lo (some a6)] w fun e w' => e = .returned (adr hi lo (some a4)) ∧ Below w.heap.size w w' := by
  obtain ⟨tb, htb⟩ : ∃ tb, tb = w.heap.size := ⟨_, rfl⟩
  obtain ⟨rb, hrb⟩ : ∃ rb, rb = w.heap.size + 1 := ⟨_, rfl⟩
  obtain ⟨W0, hW0⟩ : ∃ W0, W0 = (w.alloc (.cells #[.int .u64 (hi : Int), .int .u64 (lo : Int), .pointer (some a6)] 59)).alloc (.cells #[.int .u64 0, .int .u64 0, .pointer none] 59) := ⟨_, rfl⟩
  have kt : W0.heap[tb]? = some (.cells #[.int .u64 (hi : Int), .int .u64 (lo : Int), .pointer (some a6)] 59) := by rw [hW0, hp_alloc_lt (by rw [htb]; simp)]; exact hp_alloc_at htb
  have kr : W0.heap[rb]? = some (.cells #[.int .u64 0, .int .u64 0, .pointer none] 59) := by rw [hW0]; exact hp_alloc_at (by rw [hrb]; simp)
  have hb : Below w.heap.size w W0 := by rw [hW0]; exact ((Below.refl _ _).alloc (Nat.le_refl _) _).alloc (by simp) _
  have hI := is4in6 hi lo W0 a4 a6 (Z.on hb)
  rw [h46] at hI
  have HI := hide hI
  have HZ := hide (Z.on hb)
  have HB := hide hb
  have HW0 := hide hW0
  have HTB := hide htb
  have HRB := hide hrb
  have HKT := hide kt
  have HKR := hide kr
  have ntr : tb ≠ rb := by omega
  have c0 : W0.cell? ⟨tb, 0, none⟩ = some (.int .u64 (hi : Int)) := cell_at kt rfl
  have c1 : W0.cell? ⟨tb, 1, none⟩ = some (.int .u64 (lo : Int)) := cell_at kt rfl
  have c2 : W0.cell? ⟨tb, 2, none⟩ = some (.pointer (some a6)) := cell_at kt rfl
  clear hI hb hW0 htb hrb kt kr Z h46
  go_enter Ybad.func47, Ybad.ntmps47
  go_upto_region 1 with fail
  rw [← HW0.out, ← HRB.out, ← HTB.out]
  go_upto_region 2 with (go_at_call 35; refine HI.out.mono ?_; rintro e W1 ⟨rfl, hh⟩; have H1 := hide hh; clear hh)
  have kt1 := (H1.out.block tb (lt_of_block HKT.out)).trans HKT.out
  have kr1 := (H1.out.block rb (lt_of_block HKR.out)).trans HKR.out
  have z4 := (HZ.out.on H1.out).z4
  have d0 : W1.cell? ⟨tb, 0, none⟩ = some (.int .u64 (hi : Int)) := cell_at kt1 rfl
  have d1 : W1.cell? ⟨tb, 1, none⟩ = some (.int .u64 (lo : Int)) := cell_at kt1 rfl
  have d2 : W1.cell? ⟨tb, 2, none⟩ = some (.pointer (some a6)) := cell_at kt1 rfl
  have dz : W1.frozen? ⟨tb, 2, none⟩ = false := frozen_at kt1
  have r0 : W1.cell? ⟨rb, 0, none⟩ = some (.int .u64 0) := cell_at kr1 rfl
  have r1 : W1.cell? ⟨rb, 1, none⟩ = some (.int .u64 0) := cell_at kr1 rfl
  have r2 : W1.cell? ⟨rb, 2, none⟩ = some (.pointer none) := cell_at kr1 rfl
  have y0 : W1.frozen? ⟨rb, 0, none⟩ = false := frozen_at kr1
  have y1 : W1.frozen? ⟨rb, 1, none⟩ = false := frozen_at kr1
  have y2 : W1.frozen? ⟨rb, 2, none⟩ = false := frozen_at kr1
  have nrt : rb ≠ tb := fun e => ntr e.symm
  have KR := hide kr1
  clear c0 c1 c2 kt1 kr1
  go_wp2_with fail
  have hk2 : ((((W1.setCell ⟨tb, 2, none⟩ (.pointer (some a4))).setCell ⟨rb, 0, none⟩ (.int .u64 (hi : Int))).setCell ⟨rb, 1, none⟩ (.int .u64 (lo : Int))).setCell ⟨rb, 2, none⟩ (.pointer (some a4))).heap[rb]? = some (.cells #[.int .u64 (hi : Int), .int .u64 (lo : Int), .pointer (some a4)] 59) := by
    rw [hp_setCell_eq (hp_setCell_eq (hp_setCell_eq ((hp_setCell_ne (by simp; omega)).trans KR.out)))]
    rfl
  try simp only [Exit.inBlock, Exit.then]
  refine bodyPost_ret (res_one rfl _ _ ⟨rb, 0, none⟩ _ rfl (load59 rb (.int .u64 (hi : Int)) (.int .u64 (lo : Int)) (.pointer (some a4)) _ (cell_at hk2 rfl) (cell_at hk2 rfl) (cell_at hk2 rfl))) rfl ?_
  refine ⟨rfl, ?_⟩
  have e1 := HTB.out
  have e2 := HRB.out
  exact Below.setCell (Below.setCell (Below.setCell (Below.setCell (HB.out.trans (Below.mono H1.out HB.out.size)) (by simp; omega) _) (by simp; omega) _) (by simp; omega) _) (by simp; omega) _

/-- append(b, "::ffff:"...) -/
theorem wpList_mapped {ops : Array Oper} {rest : List Oper} {o : Oper} {a : Act} {Q : Exit → Act → World → Prop} {w : World} (hgd : o.guard = none) (s x : Operand)
    (ho : o.op = .call { callee := .builtin .append, args := #[s, x], argTypes := #[22, 9] }) (B : Nat) (v : Value) (l : List UInt8) (hs : a.eval s = v) (hx : a.eval x = .string ⟨#[58, 58, 102, 102, 102, 102, 58]⟩)
    (hown : w.ownsRow B 5 1 v l.length (byteCells l)) (hB : B ≤ w.heap.size) (hlim : l.length ≤ 1000)
    (h : ∀ v' w', Ow B v' (l ++ [58, 58, 102, 102, 102, 102, 58]) w w' → wpList Ybad.prog ops Q rest (a.put o.dst v') w') :
    wpList Ybad.prog ops Q (o :: rest) a w := by
  obtain ⟨i0, hi, hz0, hz1, hz2⟩ := info_parts info5
  have hsz : (⟨#[58, 58, 102, 102, 102, 102, 58]⟩ : ByteArray).size = 7 := rfl
  refine Lib.wpList_append_own_string _ hgd s x 22 9 ho B 5 i0 Ybad.underlying22 Ybad.underlying9 hi hz0 hz1 hz2 v _ _ hs hown ⟨#[58, 58, 102, 102, 102, 102, 58]⟩ hx (by rw [hsz]; unfold maxLen; omega) (by rw [hsz]; omega) hB ?_
  intro v' w' ho' hg _
  refine h v' w' ⟨?_, ?_, ?_⟩
  · have e : byteCells l ++ Lib.strCells ⟨#[58, 58, 102, 102, 102, 102, 58]⟩ = byteCells (l ++ [58, 58, 102, 102, 102, 102, 58]) := by
      rw [Lib.byteCells_append]
      rfl
    rw [← e, List.length_append]
    exact ho'
  · exact (Below.refl B w).grown hg hB (fun k hk => (hown.lt k hk).1)
  · exact (Lib.OthersKept.refl 5 none w).grown hg (Lib.ownsRow_kind hown)

set_option maxRecDepth 100000 in
set_option maxHeartbeats 1600000 in
/-- Addr.appendTo4In6 -/
theorem to4in6 (B hi lo : Nat) (h46 : ((hi == 0) && (lo / 4294967296 == 65535)) = true) (hlo : lo < 18446744073709551616) (v : Value) (w : World) (a4 a6 : Addr) (Z : Zs w a4 a6) (hown : w.ownsRow B 5 1 v ([] : List UInt8).length (byteCells [])) (hB : B ≤ w.heap.size) (hZB : Hid (∀ w', Below B w w' → Zs w' a4 a6)) :
    Calls Ybad.prog 36 #[adr hi lo (some a6), v] w fun e w' => ∃ v', e = .returned v' ∧ ∃ l' : List UInt8, 0 < l'.length ∧ Ow B v' l' w w' := by
  obtain ⟨tb, htb⟩ : ∃ tb, tb = w.heap.size := ⟨_, rfl⟩
  obtain ⟨W0, hW0⟩ : ∃ W0, W0 = w.alloc (.cells #[.int .u64 (hi : Int), .int .u64 (lo : Int), .pointer (some a6)] 59) := ⟨_, rfl⟩
  have hbx : W0.heap[tb]? = some (.cells #[.int .u64 (hi : Int), .int .u64 (lo : Int), .pointer (some a6)] 59) := by rw [hW0]; exact hp_alloc_at htb
  have h0 : Ow B v [] w W0 := by rw [hW0]; exact (Ow.refl hown).on hB ((Below.refl _ _).alloc (Nat.le_refl _) _)
  have HB0 : Hid (B ≤ W0.heap.size) := h0.sz hB
  have H0 := hide h0
  have HW0 := hide hW0
  have HBX := hide hbx
  have HTB := hide htb
  have H46 := hide h46
  clear hown h0 hW0 hbx htb Z h46
  go_enter Ybad.func36, Ybad.ntmps36
  go_upto_region 1 with fail
  rw [← HTB.out, ← HW0.out]
  go_upto_region 2 with (at_builtin; refine wpList_mapped rfl _ _ rfl B v [] rfl rfl H0.out.1 HB0.out (by simp) ?_; intro v1 W1 hh; have H1 := hide (Ow.trans H0.out hh); have HX1 := hide (hh.box HBX.out (by decide)); clear hh)
  have HS1 : Hid (B ≤ W1.heap.size) := H1.out.sz hB
  have c0 : W1.cell? ⟨tb, 0, none⟩ = some (.int .u64 (hi : Int)) := cell_at HX1.out rfl
  have c1 : W1.cell? ⟨tb, 1, none⟩ = some (.int .u64 (lo : Int)) := cell_at HX1.out rfl
  have c2 : W1.cell? ⟨tb, 2, none⟩ = some (.pointer (some a6)) := cell_at HX1.out rfl
  have HU := hide (unmap hi lo H46.out W1 a4 a6 (hZB.out W1 H1.out.2.1))
  have HT4 : Hid (∀ w', Below W1.heap.size W1 w' → Calls Ybad.prog 34 #[adr hi lo (some a4), v1] w' fun e w'' => ∃ v', e = .returned v' ∧ (Ow B v' ([] ++ [58, 58, 102, 102, 102, 102, 58] ++ txt4 lo) w w'' ∧ w''.heap[tb]? = some (.cells #[.int .u64 (hi : Int), .int .u64 (lo : Int), .pointer (some a6)] 59))) := by
    intro w' hbw
    have ho := H1.out.on HS1.out hbw
    refine (to4 B hi lo (some a4) v1 _ w' ho.1 (Nat.le_trans HS1.out hbw.size) (by simp) hlo).mono ?_
    rintro e w'' ⟨v', he, hk⟩
    exact ⟨v', he, ho.trans hk, hk.box ((hbw.block tb (lt_of_block HX1.out)).trans HX1.out) (by decide)⟩
  go_upto_region 3 with (first | (go_at_call 47; refine HU.out.mono ?_; rintro e W2 ⟨rfl, hh⟩; have H2 := hide hh; clear hh) | (go_at_call 34; refine (HT4.out _ H2.out).mono ?_; rintro e W3 ⟨v3, rfl, hh⟩; have H3 := hide hh.1; have HX3 := hide hh.2; clear hh))
  have d2 : W3.cell? ⟨tb, 2, none⟩ = some (.pointer (some a6)) := cell_at HX3.out rfl
  have z6 := (hZB.out W3 H3.out.2.1).z6
  have k : (Op.equalIn 9999 55 (.pointer (some a6)) (.pointer (some a6))).run Ybad.prog W3 = .ok true W3 := eqP_same 9998 _ _
  clear c0 c1 c2
  go_wp2_with fail
  go_ret
  refine ⟨v3, rfl, _, ?_, H3.out⟩
  simp only [List.length_append, List.length_cons, List.length_nil]
  omega
end Go.Proofs.YbulkdphmDoor
