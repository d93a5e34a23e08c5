/-
  The law's helpers on bytes: the record types' names, a clone, equality two ways; bytes.Equal.
-/
import Derived.Test.YbulkdpjqRows
import Derived.WalkKit
import Derived.ProofKit
import Derived.OpenShut
import Derived.WalkLawsBesides
import Derived.BigQuiet
import Derived.Laws.BitsAllLaws
import Derived.Laws.StructEq
import Derived.Test.YbulkdpjqHeap
import Derived.Test.YbulkdpjqTime
import Derived.Laws.BytesArg
import Derived.Laws.CopyRow
import Derived.Deep.OwnRows
import Derived.WalkSpells
namespace Go.Proofs.Ybulkdpjq
open Go.ChangeShapes Go.WideShapes Go.ChangeAt Go.RowKit
set_option linter.unusedVariables false

theorem hide {p : Prop} (h : p) : Hid p := h

/-! ### the record types' names -/
def typS (a : Int) : ByteArray :=
  if a % 4 = 0 then ⟨#[112, 108, 97, 105, 110]⟩ else if a % 4 = 1 then ⟨#[99, 111, 110, 116, 101, 110, 116]⟩ else if a % 4 = 2 then ⟨#[115, 105, 103, 110, 101, 100]⟩ else ⟨#[]⟩

theorem typ_any (a : Int) (w : World) (h0 : 0 ≤ a) (h1 : a ≤ 255) : Calls Yba.prog 4 #[.int .u8 a] w fun e w' => e = .returned (.string (typS a)) ∧ w' = w := by
  have hm : a % 4 = 0 ∨ a % 4 = 1 ∨ a % 4 = 2 ∨ a % 4 = 3 := by omega
  rcases hm with hm | hm | hm | hm
  all_goals
    have hs : typS a = typS a := rfl
    conv at hs => rhs; unfold typS
    simp only [hm] at hs
    have HS := hide hs
    clear hs
    go_enter Yba.func4, Yba.ntmps4
    go_wp2
    go_ret
    exact ⟨by rw [HS.out]; rfl, rfl⟩

/-! ### a []byte -/
/-- v is a []byte that holds xs: nil (and xs is empty), or a row of a block. -/
def IsB (w : World) (v : Value) (xs : List Int) : Prop :=
  (v = .slice none 0 0 ∧ xs = []) ∨ ∃ b off cap, v = .slice (some ⟨b, off, none⟩) xs.length cap ∧ ∀ i, i < xs.length → w.cell? ⟨b, off + i, none⟩ = some (.int .u8 (xs.getD i 0))

theorem IsB.ext {w w' : World} {v : Value} {xs : List Int} (h : IsB w v xs) (hb : Below w.heap.size w w') : IsB w' v xs := by
  rcases h with h | ⟨b, off, cap, hv, hc⟩
  · exact .inl h
  · refine .inr ⟨b, off, cap, hv, fun i hi => ?_⟩
    have h1 := hc i hi
    rw [hb.cell (p := ⟨b, off + i, none⟩) (World.block_lt_of_cell? w _ h1)]
    exact h1

/-- Is it nil? -/
def nilB : Value → Bool
  | .slice a _ _ => a.isNone
  | _ => false

theorem info5 : (Yba.prog.info? 5).map (fun i => (i.zero, i.size, i.bytes)) = some (some (.int .u8 0), 1, 1) := by kernel_rfl
theorem size5 : (Yba.prog.info? 5).map (·.size) = some 1 := by kernel_rfl

/-- 'string(b)' -/
theorem IsB.str {w : World} {v : Value} {xs : List Int} (h : IsB w v xs) : (convert 22 9 v).run Yba.prog w = .ok (.string (strOfNums xs)) w := by
  rcases h with ⟨rfl, rfl⟩ | ⟨b, off, cap, rfl, hc⟩
  · exact run_convert_bytes_nil w 22 5 Yba.underlying22 Yba.underlying5 0 0 9 Yba.underlying9
  · exact run_convert_bytes_arg w 22 5 Yba.underlying22 Yba.underlying5 b off _ cap xs rfl hc 9 Yba.underlying9

theorem bytesEqual_any {w : World} {v u : Value} {xs ys : List Int} (h : IsB w v xs) (h' : IsB w u ys) :
    Calls Yba.prog 18 #[v, u] w fun e w' => e = .returned (.bool ((strOfNums xs).toList == (strOfNums ys).toList)) ∧ w' = w := by
  have h1 := h.str
  have h2 := h'.str
  go_enter Yba.func18, Yba.ntmps18
  go_wp2
  go_ret
  exact ⟨rfl, rfl⟩

theorem eql22 (a : Option Addr) (l c : Nat) (w : World) : (binOp .eql 22 (.slice a l c) (.slice none 0 0)).run Yba.prog w = .ok (.bool a.isNone) w := by
  have h := run_equal_slice_nil (P := Yba.prog) w 22 5 a l c Yba.underlying22
  simp only [binOp]
  simp [h]

theorem clone_nil (w : World) : Calls Yba.prog 5 #[.slice none 0 0] w fun e w' => e = .returned (.slice none 0 0) ∧ w' = w := by
  have hnil := eql22
  go_enter Yba.func5, Yba.ntmps5
  go_wp2
  go_ret
  exact ⟨rfl, rfl⟩

theorem hp_setRow_eq {w : World} {g : Nat} {C D : Array Value} {t : TypeId} {f : Nat × Nat} (h : w.heap[g]? = some (.cells C t f)) : (w.setRow g D).heap[g]? = some (.cells D t f) := by
  simp [World.setRow, Array.getElem?_modify, h]
theorem hp_setRow_ne {w : World} {g b : Nat} {D : Array Value} (h : b ≠ g) : (w.setRow g D).heap[b]? = w.heap[b]? := by
  simp only [World.setRow, Array.getElem?_modify]
  rw [if_neg (by omega)]

theorem clone_some (b off cap : Nat) (xs : List Int) (w : World) (hn : xs.length ≤ 1048576) (hc : ∀ i, i < xs.length → w.cell? ⟨b, off + i, none⟩ = some (.int .u8 (xs.getD i 0))) :
    Calls Yba.prog 5 #[.slice (some ⟨b, off, none⟩) xs.length cap] w fun e w' => e = .returned (.slice (some ⟨w.heap.size, 0, none⟩) xs.length xs.length) ∧
      Below w.heap.size w w' ∧ w'.heap[w.heap.size]? = some (.cells (xs.map (Value.int .u8)).toArray 5) := by
  obtain ⟨n, hnn⟩ : ∃ n, n = xs.length := ⟨_, rfl⟩
  have hmk := run_make_row' (P := Yba.prog) 22 5 (.int .u8 0) 1 Yba.underlying22 info5 rfl .i64 .i64 n (by omega) (by omega) w
  have hcp : ∀ ty, (Builtin.copy_ #[22, 22] ty #[.slice (some ⟨w.heap.size, 0, none⟩) n n, .slice (some ⟨b, off, none⟩) n cap]).run Yba.prog (w.alloc (.cells (madeCells #[.int .u8 0] n) 5)) =
      .ok (goInt n) ((w.alloc (.cells (madeCells #[.int .u8 0] n) 5)).setRow w.heap.size (xs.map (Value.int .u8)).toArray) := by
    intro ty
    have hs : (madeCells #[Value.int .u8 0] n).size = n := size_madeCells _ _
    have h := run_copy_row (P := Yba.prog) (w.alloc (.cells (madeCells #[.int .u8 0] n) 5)) 22 22 ty 5 w.heap.size 0 n n ⟨b, off, none⟩ n cap (madeCells #[.int .u8 0] n) 5 (xs.map (Value.int .u8))
      Yba.underlying22 size5 (hp_alloc_eq _ _) (by simp [hnn]) (fun j v hj => ?_) (by rw [hs]; simp [hnn]) (fun v hv => by simp at hv; obtain ⟨x, _, rfl⟩ := hv; rfl)
    · rw [h]
      simp [hnn]
      congr 2
      have : (madeCells #[Value.int .u8 0] xs.length).toList.drop xs.length = [] := List.drop_eq_nil_of_le (by rw [Array.length_toList, size_madeCells]; omega)
      simpa using this
    · have hjl : j < xs.length := by
        rcases Nat.lt_or_ge j xs.length with h | h
        · exact h
        · simp [List.getElem?_eq_none (show (xs.map (Value.int .u8)).length ≤ j by simpa using h)] at hj
      have h1 := hc j hjl
      have hplain : (⟨b, off, none⟩ : Addr).add j = ⟨b, off + j, none⟩ := by unfold Addr.add; split <;> simp_all
      rw [hplain, (Below.alloc (Below.refl w.heap.size w) (Nat.le_refl _) _).cell (p := ⟨b, off + j, none⟩) (World.block_lt_of_cell? w _ h1), h1]
      simp [List.getElem?_eq_getElem hjl] at hj
      subst hj
      simp [List.getD, List.getElem?_eq_getElem hjl]
  have HN := hide hnn
  have HC := hide hc
  rw [← hnn]
  clear hnn hc
  have hnil := eql22
  go_enter Yba.func5, Yba.ntmps5
  go_wp2
  go_ret
  have b1 : Below w.heap.size w (w.alloc (.cells (madeCells #[.int .u8 0] n) 5)) := (Below.refl _ _).alloc (Nat.le_refl _) _
  exact ⟨rfl, ⟨b1.os, b1.tape, b1.output, by simp [World.setRow], fun k hk => (hp_setRow_ne (by omega)).trans (b1.block k hk)⟩, hp_setRow_eq (hp_alloc_eq _ _)⟩

/-- 'zzs5814bclone' -/
theorem clone_any {v : Value} {xs : List Int} {w : World} (hn : xs.length ≤ 1048576) (h : IsB w v xs) :
    Calls Yba.prog 5 #[v] w fun e w' => ∃ u, e = .returned u ∧ nilB u = nilB v ∧ IsB w' u xs ∧ Below w.heap.size w w' := by
  rcases h with ⟨rfl, rfl⟩ | ⟨b, off, cap, rfl, hc⟩
  · refine (clone_nil w).mono ?_
    rintro e w' ⟨rfl, rfl⟩
    exact ⟨_, rfl, rfl, .inl ⟨rfl, rfl⟩, Below.refl _ _⟩
  · refine (clone_some b off cap xs w hn hc).mono ?_
    rintro e w' ⟨rfl, hb, hg⟩
    refine ⟨_, rfl, rfl, .inr ⟨_, 0, _, rfl, fun i hi => ?_⟩, hb⟩
    rw [Nat.zero_add]
    exact cell_at hg (by simp [List.getElem?_eq_getElem hi, List.getD])

/-! ### zzs5814beq -/
theorem beq_ne (a a' : Option Addr) (n m c c' : Nat) (w : World) (hn : n ≤ 1048576) (hm : m ≤ 1048576) (hne : ¬ n = m) :
    Calls Yba.prog 8 #[.slice a n c, .slice a' m c'] w fun e w' => e = .returned (.bool false) ∧ w' = w := by
  have hb : ((n : Int) != (m : Int)) = true := by rw [bne_iff_ne]; omega
  go_enter Yba.func8, Yba.ntmps8
  go_wp2
  go_ret
  exact ⟨rfl, rfl⟩

theorem beq_zero (a a' : Option Addr) (c c' : Nat) (w : World) : Calls Yba.prog 8 #[.slice a 0 c, .slice a' 0 c'] w fun e w' => e = .returned (.bool true) ∧ w' = w := by
  go_enter Yba.func8, Yba.ntmps8
  go_wp2
  go_loop [5] (fun i => i = .int .i64 0) (fun _ => 0)
  case atStart => rfl
  case round =>
    subst hrel
    go_wp2
    go_ret
    exact ⟨rfl, rfl⟩

theorem list_eq_of {xs ys : List Int} (hl : xs.length = ys.length) (h : ∀ j, j < xs.length → xs.getD j 0 = ys.getD j 0) : xs = ys := by
  apply List.ext_getElem hl
  intro j h1 h2
  have := h j h1
  simpa [List.getD, List.getElem?_eq_getElem h1, List.getElem?_eq_getElem h2] using this

theorem ret_bool {a b : Bool} (h : a = b) : Ending.returned (.bool a) = .returned (.bool b) := by rw [h]

set_option maxHeartbeats 400000 in
theorem beq_rows (b off c b' off' c' n : Nat) (xs ys : List Int) (w : World) (hx : n = xs.length) (hy : n = ys.length) (hn : n ≤ 1048576)
    (h1 : ∀ i, i < xs.length → w.cell? ⟨b, off + i, none⟩ = some (.int .u8 (xs.getD i 0))) (h2 : ∀ i, i < ys.length → w.cell? ⟨b', off' + i, none⟩ = some (.int .u8 (ys.getD i 0))) :
    Calls Yba.prog 8 #[.slice (some ⟨b, off, none⟩) n c, .slice (some ⟨b', off', none⟩) n c'] w fun e w' => e = .returned (.bool (xs == ys)) ∧ ∃ q, w' = w.drewN q := by
  have HX := hide hx
  have HY := hide hy
  have H1 := hide h1
  have H2 := hide h2
  clear hx hy h1 h2
  have hb : ((n : Int) != (n : Int)) = false := by simp
  go_enter Yba.func8, Yba.ntmps8
  go_wp2
  go_loopw [5] (fun i wr => ∃ k q : Nat, k ≤ n ∧ i = .int .i64 k ∧ wr = w.drewN q ∧ Hid (∀ j, j < k → xs.getD j 0 = ys.getD j 0)) (fun i _ => n - (intOf i).toNat)
  case atStart => exact ⟨0, 0, Nat.zero_le _, rfl, rfl, fun j hj => by omega⟩
  case round =>
    obtain ⟨k, q, hk, rfl, rfl, hall⟩ := hrel
    by_cases hlt : k < n
    · obtain ⟨x, ex⟩ : ∃ x, x = xs.getD k 0 := ⟨_, rfl⟩
      obtain ⟨y, ey⟩ : ∃ y, y = ys.getD k 0 := ⟨_, rfl⟩
      have g1 : w.cell? ⟨b, off + k, none⟩ = some (.int .u8 x) := by rw [ex]; exact H1.out k (by have := HX.out; omega)
      have g2 : w.cell? ⟨b', off' + k, none⟩ = some (.int .u8 y) := by rw [ey]; exact H2.out k (by have := HY.out; omega)
      have EX := hide ex
      have EY := hide ey
      clear ex ey
      have hi1 : (0 : Int) ≤ (k : Int) := by omega
      have hi2 : (k : Int) < (n : Int) := by omega
      by_cases hxy : x = y
      · have hbb : (x != y) = false := by simp [hxy]
        have HXY := hide hxy
        clear hxy
        go_wp2_with fail
        go_quiet (fail)
        go_wp2_with fail
        go_roundw
        case rel =>
          refine ⟨k + 1, q + nq, by omega, by go_num, rfl, fun j hj => ?_⟩
          by_cases e : j = k
          · rw [e, ← EX.out, ← EY.out]; exact HXY.out
          · exact hall.out j (by omega)
        case measure => simp [intOf]; omega
      · have hbb : (x != y) = true := by simp [hxy]
        have hf : (xs == ys) = false := by
          rw [beq_eq_false_iff_ne]
          intro e
          apply hxy
          rw [EX.out, EY.out, e]
        have HF := hide hf
        clear hf hxy
        go_wp2_with fail
        go_quiet (fail)
        go_wp2_with fail
        go_ret
        exact ⟨ret_bool HF.out.symm, q + nq, by simp [World.drewN, Nat.add_assoc]⟩
    · have hf : (xs == ys) = true := by
        rw [beq_iff_eq]
        exact list_eq_of (by rw [← HX.out, ← HY.out]) (fun j hj => hall.out j (by have := HX.out; omega))
      have HF := hide hf
      clear hf
      go_wp2_with fail
      go_ret
      exact ⟨ret_bool HF.out.symm, q, rfl⟩

theorem beq_any {v u : Value} {xs ys : List Int} {w : World} (hn : xs.length ≤ 1048576) (hm : ys.length ≤ 1048576) (h : IsB w v xs) (h' : IsB w u ys) :
    Calls Yba.prog 8 #[v, u] w fun e w' => e = .returned (.bool (xs == ys)) ∧ ∃ q, w' = w.drewN q := by
  have key : ∀ (a a' : Option Addr) (n m c c' : Nat), v = .slice a n c → u = .slice a' m c' → n = xs.length → m = ys.length → (¬ n = m ∨ (n = 0 ∧ m = 0)) →
      Calls Yba.prog 8 #[v, u] w fun e w' => e = .returned (.bool (xs == ys)) ∧ ∃ q, w' = w.drewN q := by
    intro a a' n m c c' hv hu hx hy hc
    subst hv hu
    rcases hc with hc | ⟨hc1, hc2⟩
    · refine (beq_ne a a' n m c c' w (by omega) (by omega) hc).mono ?_
      rintro e w' ⟨rfl, rfl⟩
      refine ⟨ret_bool (Eq.symm ?_), 0, rfl⟩
      rw [beq_eq_false_iff_ne]
      intro e
      rw [e] at hx
      omega
    · subst hc1 hc2
      refine (beq_zero a a' c c' w).mono ?_
      rintro e w' ⟨rfl, rfl⟩
      rw [List.eq_nil_of_length_eq_zero hx.symm, List.eq_nil_of_length_eq_zero hy.symm]
      exact ⟨rfl, 0, rfl⟩
  rcases h with ⟨hv, hx⟩ | ⟨b, off, c, hv, hc⟩
  · rcases h' with ⟨hu, hy⟩ | ⟨b', off', c', hu, hc'⟩
    · exact key _ _ 0 0 0 0 hv hu (by simp [hx]) (by simp [hy]) (.inr ⟨rfl, rfl⟩)
    · exact key _ _ 0 ys.length 0 c' hv hu (by simp [hx]) rfl (by omega)
  · rcases h' with ⟨hu, hy⟩ | ⟨b', off', c', hu, hc'⟩
    · exact key _ _ xs.length 0 c 0 hv hu rfl (by simp [hy]) (by omega)
    · by_cases hl : xs.length = ys.length
      · subst hv hu
        have := beq_rows b off c b' off' c' xs.length xs ys w rfl hl hn hc hc'
        rw [← hl]
        exact this
      · exact key _ _ xs.length ys.length c c' hv hu rfl rfl (.inl hl)

/-- Two strings made of bytes are the same as the bytes are. -/
theorem str_beq {xs ys : List Int} (hx : ∀ x ∈ xs, 0 ≤ x ∧ x ≤ 255) (hy : ∀ x ∈ ys, 0 ≤ x ∧ x ≤ 255) : ((strOfNums xs).toList == (strOfNums ys).toList) = (xs == ys) := by
  have e : ∀ zs : List Int, (strOfNums zs).toList = zs.map fun n => UInt8.ofNat n.toNat := fun zs => by rw [ByteArray.toList_eq]; rfl
  rw [e, e, Bool.eq_iff_iff, beq_iff_eq, beq_iff_eq]
  constructor
  · intro h
    induction xs generalizing ys with
    | nil => cases ys with
      | nil => rfl
      | cons y ys => simp at h
    | cons x xs ih => cases ys with
      | nil => simp at h
      | cons y ys =>
        simp only [List.map_cons, List.cons.injEq] at h
        have h1 := hx x (by simp)
        have h2 := hy y (by simp)
        have h3 := congrArg UInt8.toNat h.1
        simp only [UInt8.toNat_ofNat'] at h3
        rw [ih (fun z hz => hx z (by simp [hz])) (fun z hz => hy z (by simp [hz])) h.2, show x = y from by omega]
  · intro h; rw [h]

end Go.Proofs.Ybulkdpjq
