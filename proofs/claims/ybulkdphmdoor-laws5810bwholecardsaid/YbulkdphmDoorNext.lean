/-
  (*decoder).next
-/
import Derived.Test.YbulkdphmDoorRows
import Derived.WalkKit
import Derived.ProofKit
import Derived.OpenShut
import Derived.WalkLawsBesides
import Derived.BigQuiet
import Derived.Laws.BitsAllLaws
import Derived.Laws.StructEq
import Derived.Outline
import Derived.Test.YbulkdphmDoorNext0
import Derived.Deep.RegionWith
import Derived.Deep.RegionHeld3
import Derived.Deep.DeepCutAuto
import Derived.Deep.DrawnRows
namespace Go.Proofs.YbulkdphmDoor
open Go.ChangeShapes Go.WideShapes Go.ChangeAt Go.RowKit
open Go.ChangeMaps (setBlock)
set_option linter.unusedVariables false


theorem and128_lt (x : Nat) (h : x < 128) : (bits .and .u64 (x : Int) 128 != 0) = false := by
  rw [show (128 : Int) = ((128 : Nat) : Int) from rfl, u64_and_nat x 128 (by omega) (by omega)]
  have key : ∀ y, y < 128 → y &&& 128 = 0 := by decide
  rw [key x h]
  rfl
theorem and128_ge (x : Nat) (h : 128 ≤ x) (h' : x < 256) : (bits .and .u64 (x : Int) 128 != 0) = true := by
  rw [show (128 : Int) = ((128 : Nat) : Int) from rfl, u64_and_nat x 128 (by omega) (by omega)]
  have key : ∀ y, y < 128 → (y + 128) &&& 128 = 128 := by decide
  have := key (x - 128) (by omega)
  rw [show x - 128 + 128 = x by omega] at this
  rw [this]
  rfl
theorem and127_ge (x : Nat) (h : 128 ≤ x) (h' : x < 256) : bits .and .u64 (x : Int) 127 = ((x - 128 : Nat) : Int) := by
  rw [show (127 : Int) = ((127 : Nat) : Int) from rfl, u64_and_nat x 127 (by omega) (by omega), nat_mask7]
  omega

theorem next_short (db n c : Nat) (p : Option Addr) (w : World) (hd : w.cell? ⟨db, 0, none⟩ = some (.slice p n c)) (h2 : n < 2) : Calls Ybad.prog 20 #[.pointer (some ⟨db, 0, none⟩)] w fun e w' => e = .returned (.tuple #[.int .u8 0, .slice none 0 0, .bool false]) ∧ w' = w := by
  have hn2 : (n : Int) < 2 := by omega
  go_enter Ybad.func20, Ybad.ntmps20
  go_wp2_with fail
  go_ret3
  exact ⟨rfl, rfl⟩

theorem next_a (db b off n c : Nat) (xs : List Int) (w : World) (hd : w.cell? ⟨db, 0, none⟩ = some (.slice (some ⟨b, off, none⟩) n c)) (hz : w.frozen? ⟨db, 0, none⟩ = false) (h : Bytes w b off n xs) (hc : n ≤ c) (hn : n ≤ 1048576) (h2 : 2 ≤ n) (x1 : Nat) (hx1 : (x1 : Int) = xs.getD 1 0) (ha : x1 < 128) (hb : n - 2 < x1) : Calls Ybad.prog 20 #[.pointer (some ⟨db, 0, none⟩)] w fun e w' => e = .returned (.tuple #[.int .u8 0, .slice none 0 0, .bool false]) ∧ w' = w := by
  have hn2 : ¬ (n : Int) < 2 := by omega
  have hl := h.len
  obtain ⟨x0, hx0⟩ : ∃ x, x = xs.getD 0 0 := ⟨_, rfl⟩
  have g0 : w.cell? ⟨b, off, none⟩ = some (.int .u8 x0) := by rw [hx0]; exact h.cell 0 (by omega)
  have g1 : w.cell? ⟨b, off + 1, none⟩ = some (.int .u8 (x1 : Nat)) := by rw [hx1]; exact h.cell 1 (by omega)
  have hi1 : (1 : Int) < (n : Int) := by omega
  have hi0 : (0 : Int) < (n : Int) := by omega
  have hx256 : x1 < 256 := by have := h.at (i := 1) (by omega); omega
  have hv1 : IntKind.u64.wrap (x1 : Int) = (x1 : Int) := by rw [IntKind.wrap_u64]; omega
  have k1 := cut_lo b off n c 2 .i64 h2
  rw [show ((2 : Nat) : Int) = 2 from rfl] at k1
  obtain ⟨o2, ho2⟩ : ∃ o, o = offAt c 2 off := ⟨_, rfl⟩
  have s1 := h.sub 2 n c h2 (Nat.le_refl _) hc
  rw [← ho2] at k1 s1
  rw [show xs.take n = xs by rw [h.len]; exact List.take_length] at s1
  obtain ⟨m, hm⟩ : ∃ m, m = n - 2 := ⟨_, rfl⟩
  obtain ⟨cm, hcm⟩ : ∃ cm, cm = c - 2 := ⟨_, rfl⟩
  rw [← hm, ← hcm] at k1
  rw [← hm] at s1
  have hmc : m ≤ cm := by omega
  have S1 := hide s1
  have HX0 := hide hx0
  have HLN := hide hl
  have HM := hide hm
  have HCM := hide hcm
  have H := hide h
  clear h hx0 hx1 hl ho2 s1
  have h3 := and128_lt x1 ha
  have hv2 : IntKind.u64.wrap (m : Int) = (m : Int) := by rw [IntKind.wrap_u64]; omega
  have h4 : (m : Int) < (x1 : Int) := by omega
  clear hm hcm
  go_enter Ybad.func20, Ybad.ntmps20
  go_wp2_with fail
  go_ret3
  exact ⟨rfl, rfl⟩

set_option maxRecDepth 100000 in
set_option maxHeartbeats 1600000 in
theorem next_b (db b off n c : Nat) (xs : List Int) (w : World) (hd : w.cell? ⟨db, 0, none⟩ = some (.slice (some ⟨b, off, none⟩) n c)) (hz : w.frozen? ⟨db, 0, none⟩ = false) (h : Bytes w b off n xs) (hc : n ≤ c) (hn : n ≤ 1048576) (h2 : 2 ≤ n) (x1 : Nat) (hx1 : (x1 : Int) = xs.getD 1 0) (ha : x1 < 128) (hb : x1 ≤ n - 2) : Calls Ybad.prog 20 #[.pointer (some ⟨db, 0, none⟩)] w fun e w' => ∃ o1 c1 o2 c2 q, e = .returned (.tuple #[.int .u8 (xs.getD 0 0), .slice (some ⟨b, o1, none⟩) (x1) c1, .bool true]) ∧ w' = (w.setCell ⟨db, 0, none⟩ (.slice (some ⟨b, o2, none⟩) (n - (2 + x1)) c2)).drewN q ∧ x1 ≤ c1 ∧ Bytes w b o1 (x1) ((xs.take (2 + x1)).drop (2)) ∧ Bytes w b o2 (n - (2 + x1)) (xs.drop (2 + x1)) := by
  have hn2 : ¬ (n : Int) < 2 := by omega
  have hl := h.len
  obtain ⟨x0, hx0⟩ : ∃ x, x = xs.getD 0 0 := ⟨_, rfl⟩
  have g0 : w.cell? ⟨b, off, none⟩ = some (.int .u8 x0) := by rw [hx0]; exact h.cell 0 (by omega)
  have g1 : w.cell? ⟨b, off + 1, none⟩ = some (.int .u8 (x1 : Nat)) := by rw [hx1]; exact h.cell 1 (by omega)
  have hi1 : (1 : Int) < (n : Int) := by omega
  have hi0 : (0 : Int) < (n : Int) := by omega
  have hx256 : x1 < 256 := by have := h.at (i := 1) (by omega); omega
  have hv1 : IntKind.u64.wrap (x1 : Int) = (x1 : Int) := by rw [IntKind.wrap_u64]; omega
  have k1 := cut_lo b off n c 2 .i64 h2
  rw [show ((2 : Nat) : Int) = 2 from rfl] at k1
  obtain ⟨o2, ho2⟩ : ∃ o, o = offAt c 2 off := ⟨_, rfl⟩
  have s1 := h.sub 2 n c h2 (Nat.le_refl _) hc
  rw [← ho2] at k1 s1
  rw [show xs.take n = xs by rw [h.len]; exact List.take_length] at s1
  obtain ⟨m, hm⟩ : ∃ m, m = n - 2 := ⟨_, rfl⟩
  obtain ⟨cm, hcm⟩ : ∃ cm, cm = c - 2 := ⟨_, rfl⟩
  rw [← hm, ← hcm] at k1
  rw [← hm] at s1
  have hmc : m ≤ cm := by omega
  have S1 := hide s1
  have HX0 := hide hx0
  have HLN := hide hl
  have HM := hide hm
  have HCM := hide hcm
  have H := hide h
  clear h hx0 hx1 hl ho2 s1
  have h3 := and128_lt x1 ha
  have hv2 : IntKind.u64.wrap (m : Int) = (m : Int) := by rw [IntKind.wrap_u64]; omega
  have h4 : ¬ (m : Int) < (x1 : Int) := by omega
  have k2 := cut_hi b o2 m cm x1 .u64 (by omega)
  have k3 := cut_lo b o2 m cm x1 .u64 (by omega)
  obtain ⟨o3, ho3⟩ : ∃ o, o = offAt cm x1 o2 := ⟨_, rfl⟩
  have s2 := S1.out.sub x1 m cm (by omega) (Nat.le_refl _) hmc
  have s3 := S1.out.sub 0 x1 cm (by omega) (by omega) (by omega)
  rw [← ho3] at k3 s2
  rw [offAt_zero] at s3
  have S2 := hide s2
  have S3 := hide s3
  clear s2 s3 ho3 hm hcm
  go_enter Ybad.func20, Ybad.ntmps20
  go_wp2_with fail
  refine wp_region_held_drew (S := fun w' => True) (by kernel_rfl) ?_ (fun hHeld => ?_)
  · trivial
  refine wpAnyH_take (i := 0) (oi := { dst := some 74, op := Op.move (Operand.tmp 0), type := 31, pos := "snmp.go:513", after := #[{ on := 7, ground := Ground.gcOnly Departure.lateStores }], guard := none }) (v := ?_) rfl (by kernel_rfl) (by kernel_rfl) (by kernel_rfl) (fun _ _ _ h => h) (Or.inl ⟨by rfl, ?_⟩) hHeld ?_
  rotate_left
  · intro w hSw
    (try dsimp only at hSw)
    go_simp
    try with_reducible rfl
  try simp only [Act.put, List.setIfInBounds_toArray, List.set_cons_zero, List.set_cons_succ]
  refine wpAnyH_take (i := 1) (oi := { dst := some 75, op := Op.move (Operand.tmp 5), type := 22, pos := "snmp.go:513", after := #[], guard := none }) (v := ?_) rfl (by kernel_rfl) (by kernel_rfl) (by kernel_rfl) (fun _ _ _ h => h) (Or.inl ⟨by rfl, ?_⟩) hHeld ?_
  rotate_left
  · intro w hSw
    (try dsimp only at hSw)
    go_simp
    try with_reducible rfl
  try simp only [Act.put, List.setIfInBounds_toArray, List.set_cons_zero, List.set_cons_succ]
  refine wpAnyH_take (i := 2) (oi := { dst := some 76, op := Op.move (Operand.tmp 6), type := 38, pos := "snmp.go:513", after := #[], guard := none }) (v := ?_) rfl (by kernel_rfl) (by kernel_rfl) (by kernel_rfl) (fun _ _ _ h => h) (Or.inl ⟨by rfl, ?_⟩) hHeld ?_
  rotate_left
  · intro w hSw
    (try dsimp only at hSw)
    go_simp
    try with_reducible rfl
  try simp only [Act.put, List.setIfInBounds_toArray, List.set_cons_zero, List.set_cons_succ]
  refine wpAnyH_take (i := 3) (oi := { dst := some 77, op := Op.slice 22 (Operand.tmp 75) none (some (Operand.tmp 76)) none, type := 22, pos := "snmp.go:513", after := #[{ on := 1, ground := Ground.data }, { on := 2, ground := Ground.data }], guard := none }) (v := ?_) rfl (by kernel_rfl) (by kernel_rfl) (by kernel_rfl) (fun _ _ _ h => h) (Or.inl ⟨by rfl, ?_⟩) hHeld ?_
  rotate_left
  · intro w hSw
    (try dsimp only at hSw)
    go_simp
    try with_reducible rfl
  try simp only [Act.put, List.setIfInBounds_toArray, List.set_cons_zero, List.set_cons_succ]
  refine wpAnyH_take (i := 4) (oi := { dst := some 78, op := Op.move (Operand.tmp 5), type := 22, pos := "snmp.go:513", after := #[], guard := none }) (v := ?_) rfl (by kernel_rfl) (by kernel_rfl) (by kernel_rfl) (fun _ _ _ h => h) (Or.inl ⟨by rfl, ?_⟩) hHeld ?_
  rotate_left
  · intro w hSw
    (try dsimp only at hSw)
    go_simp
    try with_reducible rfl
  try simp only [Act.put, List.setIfInBounds_toArray, List.set_cons_zero, List.set_cons_succ]
  refine wpAnyH_take (i := 5) (oi := { dst := some 79, op := Op.move (Operand.tmp 6), type := 38, pos := "snmp.go:513", after := #[], guard := none }) (v := ?_) rfl (by kernel_rfl) (by kernel_rfl) (by kernel_rfl) (fun _ _ _ h => h) (Or.inl ⟨by rfl, ?_⟩) hHeld ?_
  rotate_left
  · intro w hSw
    (try dsimp only at hSw)
    go_simp
    try with_reducible rfl
  try simp only [Act.put, List.setIfInBounds_toArray, List.set_cons_zero, List.set_cons_succ]
  refine wpAnyH_take (i := 6) (oi := { dst := some 80, op := Op.slice 22 (Operand.tmp 78) (some (Operand.tmp 79)) none none, type := 22, pos := "snmp.go:513", after := #[{ on := 4, ground := Ground.data }, { on := 5, ground := Ground.data }], guard := none }) (v := ?_) rfl (by kernel_rfl) (by kernel_rfl) (by kernel_rfl) (fun _ _ _ h => h) (Or.inl ⟨by rfl, ?_⟩) hHeld ?_
  rotate_left
  · intro w hSw
    (try dsimp only at hSw)
    go_simp
    try with_reducible rfl
  try simp only [Act.put, List.setIfInBounds_toArray, List.set_cons_zero, List.set_cons_succ]
  refine wpAnyH_take (i := 7) (oi := { dst := some 3, op := Op.assign (Operand.tmp 77), type := 22, pos := "snmp.go:513", after := #[{ on := 3, ground := Ground.data }, { on := 0, ground := Ground.textOnly Departure.lateStores }, { on := 1, ground := Ground.phase }, { on := 2, ground := Ground.phase }, { on := 3, ground := Ground.phase }, { on := 4, ground := Ground.textOnly Departure.lateStores }, { on := 5, ground := Ground.textOnly Departure.lateStores }, { on := 6, ground := Ground.textOnly Departure.lateStoresUnsure }], guard := none }) (v := ?_) rfl (by kernel_rfl) (by kernel_rfl) (by kernel_rfl) (fun _ _ _ h => h) (Or.inl ⟨by rfl, ?_⟩) hHeld ?_
  rotate_left
  · intro w hSw
    (try dsimp only at hSw)
    go_simp
    try with_reducible rfl
  try simp only [Act.put, List.setIfInBounds_toArray, List.set_cons_zero, List.set_cons_succ]
  refine wpAnyH_take (i := 8) (oi := { dst := some 81, op := Op.nilCheck (Operand.tmp 74), type := 0, pos := "snmp.go:513", after := #[{ on := 0, ground := Ground.data }, { on := 0, ground := Ground.phase }, { on := 1, ground := Ground.phase }, { on := 2, ground := Ground.phase }, { on := 3, ground := Ground.phase }, { on := 4, ground := Ground.phase }, { on := 5, ground := Ground.phase }, { on := 6, ground := Ground.phase }, { on := 7, ground := Ground.phase }], guard := none }) (v := ?_) rfl (by kernel_rfl) (by kernel_rfl) (by kernel_rfl) (fun _ _ _ h => h) (Or.inl ⟨by rfl, ?_⟩) hHeld ?_
  rotate_left
  · intro w hSw
    (try dsimp only at hSw)
    go_simp
    try with_reducible rfl
  try simp only [Act.put, List.setIfInBounds_toArray, List.set_cons_zero, List.set_cons_succ]
  refine wpAnyH_take (i := 9) (oi := { dst := some 82, op := Op.fieldAddr 33 (Operand.tmp 81) 0, type := 0, pos := "snmp.go:513", after := #[{ on := 8, ground := Ground.data }, { on := 0, ground := Ground.phase }, { on := 1, ground := Ground.phase }, { on := 2, ground := Ground.phase }, { on := 3, ground := Ground.phase }, { on := 4, ground := Ground.phase }, { on := 5, ground := Ground.phase }, { on := 6, ground := Ground.phase }, { on := 7, ground := Ground.phase }], guard := none }) (v := ?_) rfl (by kernel_rfl) (by kernel_rfl) (by kernel_rfl) (fun _ _ _ h => h) (Or.inl ⟨by rfl, ?_⟩) hHeld ?_
  rotate_left
  · intro w hSw
    (try dsimp only at hSw)
    go_simp
    try with_reducible rfl
  try simp only [Act.put, List.setIfInBounds_toArray, List.set_cons_zero, List.set_cons_succ]
  refine wpAnyH_ready (rs := [10]) (by kernel_rfl) (by simp) ?_
  refine AllReadyH.cons (o := { dst := none, op := Op.store 22 (Operand.tmp 82) (Operand.tmp 80), type := 0, pos := "snmp.go:513", after := #[{ on := 9, ground := Ground.data }, { on := 6, ground := Ground.data }, { on := 7, ground := Ground.chain }, { on := 0, ground := Ground.phase }, { on := 1, ground := Ground.phase }, { on := 2, ground := Ground.phase }, { on := 3, ground := Ground.phase }, { on := 4, ground := Ground.phase }, { on := 5, ground := Ground.phase }, { on := 6, ground := Ground.phase }, { on := 7, ground := Ground.phase }], guard := none }) rfl (fun K hK => ?_) AllReadyH.nil
  have hd' : w.drew.cell? ⟨db, 0, none⟩ = some (.slice (some ⟨b, off, none⟩) n c) := hd
  have hz' : w.drew.frozen? ⟨db, 0, none⟩ = false := hz
  go_simp
  refine hK.out _ _ ?_ (fun hHeld => ?_)
  · trivial
  clear hK K
  try simp only [Act.put]
  refine wpAnyH_done (by kernel_rfl) ?_ _
  go_wp2_with fail
  go_ret3
  have e1 := HM.out
  have e2 := HCM.out
  have e3 := HLN.out
  refine ⟨o2, cm, o3, cm - x1, 1, ?_, ?_, by omega, ?_, ?_⟩
  · rw [← HX0.out]
    rfl
  · rw [show n - (2 + x1) = m - x1 by omega]
    rfl
  · have := S3.out
    rw [Nat.sub_zero, List.drop_zero] at this
    rw [show (xs.take (2 + x1)).drop 2 = (xs.drop 2).take x1 by rw [List.drop_take]; congr 1; omega]
    exact this
  · have := S2.out
    rw [show (List.take m (List.drop 2 xs)) = xs.drop 2 by rw [List.take_of_length_le]; simp; omega, List.drop_drop] at this
    rw [show n - (2 + x1) = m - x1 by omega]
    exact this

theorem next_c (db b off n c : Nat) (xs : List Int) (w : World) (hd : w.cell? ⟨db, 0, none⟩ = some (.slice (some ⟨b, off, none⟩) n c)) (hz : w.frozen? ⟨db, 0, none⟩ = false) (h : Bytes w b off n xs) (hc : n ≤ c) (hn : n ≤ 1048576) (h2 : 2 ≤ n) (x1 : Nat) (hx1 : (x1 : Int) = xs.getD 1 0) (h128 : 128 ≤ x1) (h256 : x1 < 256) (ha : x1 - 128 = 0) : Calls Ybad.prog 20 #[.pointer (some ⟨db, 0, none⟩)] w fun e w' => e = .returned (.tuple #[.int .u8 0, .slice none 0 0, .bool false]) ∧ w' = w := by
  have hn2 : ¬ (n : Int) < 2 := by omega
  have hl := h.len
  obtain ⟨x0, hx0⟩ : ∃ x, x = xs.getD 0 0 := ⟨_, rfl⟩
  have g0 : w.cell? ⟨b, off, none⟩ = some (.int .u8 x0) := by rw [hx0]; exact h.cell 0 (by omega)
  have g1 : w.cell? ⟨b, off + 1, none⟩ = some (.int .u8 (x1 : Nat)) := by rw [hx1]; exact h.cell 1 (by omega)
  have hi1 : (1 : Int) < (n : Int) := by omega
  have hi0 : (0 : Int) < (n : Int) := by omega
  have hx256 : x1 < 256 := by have := h.at (i := 1) (by omega); omega
  have hv1 : IntKind.u64.wrap (x1 : Int) = (x1 : Int) := by rw [IntKind.wrap_u64]; omega
  have k1 := cut_lo b off n c 2 .i64 h2
  rw [show ((2 : Nat) : Int) = 2 from rfl] at k1
  obtain ⟨o2, ho2⟩ : ∃ o, o = offAt c 2 off := ⟨_, rfl⟩
  have s1 := h.sub 2 n c h2 (Nat.le_refl _) hc
  rw [← ho2] at k1 s1
  rw [show xs.take n = xs by rw [h.len]; exact List.take_length] at s1
  obtain ⟨m, hm⟩ : ∃ m, m = n - 2 := ⟨_, rfl⟩
  obtain ⟨cm, hcm⟩ : ∃ cm, cm = c - 2 := ⟨_, rfl⟩
  rw [← hm, ← hcm] at k1
  rw [← hm] at s1
  have hmc : m ≤ cm := by omega
  have S1 := hide s1
  have HX0 := hide hx0
  have HLN := hide hl
  have HM := hide hm
  have HCM := hide hcm
  have H := hide h
  clear h hx0 hx1 hl ho2 s1
  have h3 := and128_ge x1 h128 h256
  have h3' := and127_ge x1 h128 h256
  have h5 : ((x1 - 128 : Nat) : Int) = 0 := by omega
  obtain ⟨kk, hkk⟩ : ∃ kk, kk = x1 - 128 := ⟨_, rfl⟩
  rw [← hkk] at h3' h5
  rw [h5] at h3'
  have hv4 : IntKind.i64.wrap ((kk : Int)) = (kk : Int) := by rw [IntKind.wrap_i64]; omega
  clear hm hcm hkk ha h5
  go_enter Ybad.func20, Ybad.ntmps20
  go_wp2_with fail
  go_ret3
  exact ⟨rfl, rfl⟩

theorem next_d (db b off n c : Nat) (xs : List Int) (w : World) (hd : w.cell? ⟨db, 0, none⟩ = some (.slice (some ⟨b, off, none⟩) n c)) (hz : w.frozen? ⟨db, 0, none⟩ = false) (h : Bytes w b off n xs) (hc : n ≤ c) (hn : n ≤ 1048576) (h2 : 2 ≤ n) (x1 : Nat) (hx1 : (x1 : Int) = xs.getD 1 0) (h128 : 128 ≤ x1) (h256 : x1 < 256) (ha : 4 < x1 - 128) : Calls Ybad.prog 20 #[.pointer (some ⟨db, 0, none⟩)] w fun e w' => e = .returned (.tuple #[.int .u8 0, .slice none 0 0, .bool false]) ∧ w' = w := by
  have hn2 : ¬ (n : Int) < 2 := by omega
  have hl := h.len
  obtain ⟨x0, hx0⟩ : ∃ x, x = xs.getD 0 0 := ⟨_, rfl⟩
  have g0 : w.cell? ⟨b, off, none⟩ = some (.int .u8 x0) := by rw [hx0]; exact h.cell 0 (by omega)
  have g1 : w.cell? ⟨b, off + 1, none⟩ = some (.int .u8 (x1 : Nat)) := by rw [hx1]; exact h.cell 1 (by omega)
  have hi1 : (1 : Int) < (n : Int) := by omega
  have hi0 : (0 : Int) < (n : Int) := by omega
  have hx256 : x1 < 256 := by have := h.at (i := 1) (by omega); omega
  have hv1 : IntKind.u64.wrap (x1 : Int) = (x1 : Int) := by rw [IntKind.wrap_u64]; omega
  have k1 := cut_lo b off n c 2 .i64 h2
  rw [show ((2 : Nat) : Int) = 2 from rfl] at k1
  obtain ⟨o2, ho2⟩ : ∃ o, o = offAt c 2 off := ⟨_, rfl⟩
  have s1 := h.sub 2 n c h2 (Nat.le_refl _) hc
  rw [← ho2] at k1 s1
  rw [show xs.take n = xs by rw [h.len]; exact List.take_length] at s1
  obtain ⟨m, hm⟩ : ∃ m, m = n - 2 := ⟨_, rfl⟩
  obtain ⟨cm, hcm⟩ : ∃ cm, cm = c - 2 := ⟨_, rfl⟩
  rw [← hm, ← hcm] at k1
  rw [← hm] at s1
  have hmc : m ≤ cm := by omega
  have S1 := hide s1
  have HX0 := hide hx0
  have HLN := hide hl
  have HM := hide hm
  have HCM := hide hcm
  have H := hide h
  clear h hx0 hx1 hl ho2 s1
  have h3 := and128_ge x1 h128 h256
  have h3' := and127_ge x1 h128 h256
  have h5 : (((x1 - 128 : Nat) : Int) == 0) = false := by simp; omega
  have h6 : (4 : Int) < ((x1 - 128 : Nat) : Int) := by omega
  obtain ⟨kk, hkk⟩ : ∃ kk, kk = x1 - 128 := ⟨_, rfl⟩
  rw [← hkk] at h3' h5 h6
  skip
  have hv4 : IntKind.i64.wrap ((kk : Int)) = (kk : Int) := by rw [IntKind.wrap_i64]; omega
  clear hm hcm hkk ha 
  go_enter Ybad.func20, Ybad.ntmps20
  go_wp2_with fail
  go_ret3
  exact ⟨rfl, rfl⟩

theorem next_e (db b off n c : Nat) (xs : List Int) (w : World) (hd : w.cell? ⟨db, 0, none⟩ = some (.slice (some ⟨b, off, none⟩) n c)) (hz : w.frozen? ⟨db, 0, none⟩ = false) (h : Bytes w b off n xs) (hc : n ≤ c) (hn : n ≤ 1048576) (h2 : 2 ≤ n) (x1 : Nat) (hx1 : (x1 : Int) = xs.getD 1 0) (h128 : 128 ≤ x1) (h256 : x1 < 256) (ha : n - 2 < x1 - 128) (hk0 : 0 < x1 - 128) (hk4 : x1 - 128 ≤ 4) : Calls Ybad.prog 20 #[.pointer (some ⟨db, 0, none⟩)] w fun e w' => e = .returned (.tuple #[.int .u8 0, .slice none 0 0, .bool false]) ∧ w' = w := by
  have hn2 : ¬ (n : Int) < 2 := by omega
  have hl := h.len
  obtain ⟨x0, hx0⟩ : ∃ x, x = xs.getD 0 0 := ⟨_, rfl⟩
  have g0 : w.cell? ⟨b, off, none⟩ = some (.int .u8 x0) := by rw [hx0]; exact h.cell 0 (by omega)
  have g1 : w.cell? ⟨b, off + 1, none⟩ = some (.int .u8 (x1 : Nat)) := by rw [hx1]; exact h.cell 1 (by omega)
  have hi1 : (1 : Int) < (n : Int) := by omega
  have hi0 : (0 : Int) < (n : Int) := by omega
  have hx256 : x1 < 256 := by have := h.at (i := 1) (by omega); omega
  have hv1 : IntKind.u64.wrap (x1 : Int) = (x1 : Int) := by rw [IntKind.wrap_u64]; omega
  have k1 := cut_lo b off n c 2 .i64 h2
  rw [show ((2 : Nat) : Int) = 2 from rfl] at k1
  obtain ⟨o2, ho2⟩ : ∃ o, o = offAt c 2 off := ⟨_, rfl⟩
  have s1 := h.sub 2 n c h2 (Nat.le_refl _) hc
  rw [← ho2] at k1 s1
  rw [show xs.take n = xs by rw [h.len]; exact List.take_length] at s1
  obtain ⟨m, hm⟩ : ∃ m, m = n - 2 := ⟨_, rfl⟩
  obtain ⟨cm, hcm⟩ : ∃ cm, cm = c - 2 := ⟨_, rfl⟩
  rw [← hm, ← hcm] at k1
  rw [← hm] at s1
  have hmc : m ≤ cm := by omega
  have S1 := hide s1
  have HX0 := hide hx0
  have HLN := hide hl
  have HM := hide hm
  have HCM := hide hcm
  have H := hide h
  clear h hx0 hx1 hl ho2 s1
  have h3 := and128_ge x1 h128 h256
  have h3' := and127_ge x1 h128 h256
  have h5 : (((x1 - 128 : Nat) : Int) == 0) = false := by simp; omega
  have h6 : ¬ (4 : Int) < ((x1 - 128 : Nat) : Int) := by omega
  have h7 : (m : Int) < ((x1 - 128 : Nat) : Int) := by omega
  obtain ⟨kk, hkk⟩ : ∃ kk, kk = x1 - 128 := ⟨_, rfl⟩
  rw [← hkk] at h3' h5 h6 h7
  skip
  have hv4 : IntKind.i64.wrap ((kk : Int)) = (kk : Int) := by rw [IntKind.wrap_i64]; omega
  clear hm hcm hkk ha 
  go_enter Ybad.func20, Ybad.ntmps20
  go_wp2_with fail
  go_ret3
  exact ⟨rfl, rfl⟩

set_option maxRecDepth 100000 in
set_option maxHeartbeats 1600000 in
theorem next_f (db b off n c : Nat) (xs : List Int) (w : World) (hd : w.cell? ⟨db, 0, none⟩ = some (.slice (some ⟨b, off, none⟩) n c)) (hz : w.frozen? ⟨db, 0, none⟩ = false) (h : Bytes w b off n xs) (hc : n ≤ c) (hn : n ≤ 1048576) (h2 : 2 ≤ n) (x1 : Nat) (hx1 : (x1 : Int) = xs.getD 1 0) (h128 : 128 ≤ x1) (h256 : x1 < 256) (hk0 : 0 < x1 - 128) (hk4 : x1 - 128 ≤ 4) (hkn : x1 - 128 ≤ n - 2) (L : Nat) (hL : (L : Int) = uF 0 ((xs.drop 2).take (x1 - 128))) (hLn : n - (2 + (x1 - 128)) < L) : Calls Ybad.prog 20 #[.pointer (some ⟨db, 0, none⟩)] w fun e w' => e = .returned (.tuple #[.int .u8 0, .slice none 0 0, .bool false]) ∧ w' = w := by
  have hn2 : ¬ (n : Int) < 2 := by omega
  have hl := h.len
  obtain ⟨x0, hx0⟩ : ∃ x, x = xs.getD 0 0 := ⟨_, rfl⟩
  have g0 : w.cell? ⟨b, off, none⟩ = some (.int .u8 x0) := by rw [hx0]; exact h.cell 0 (by omega)
  have g1 : w.cell? ⟨b, off + 1, none⟩ = some (.int .u8 (x1 : Nat)) := by rw [hx1]; exact h.cell 1 (by omega)
  have hi1 : (1 : Int) < (n : Int) := by omega
  have hi0 : (0 : Int) < (n : Int) := by omega
  have hx256 : x1 < 256 := by have := h.at (i := 1) (by omega); omega
  have hv1 : IntKind.u64.wrap (x1 : Int) = (x1 : Int) := by rw [IntKind.wrap_u64]; omega
  have k1 := cut_lo b off n c 2 .i64 h2
  rw [show ((2 : Nat) : Int) = 2 from rfl] at k1
  obtain ⟨o2, ho2⟩ : ∃ o, o = offAt c 2 off := ⟨_, rfl⟩
  have s1 := h.sub 2 n c h2 (Nat.le_refl _) hc
  rw [← ho2] at k1 s1
  rw [show xs.take n = xs by rw [h.len]; exact List.take_length] at s1
  obtain ⟨m, hm⟩ : ∃ m, m = n - 2 := ⟨_, rfl⟩
  obtain ⟨cm, hcm⟩ : ∃ cm, cm = c - 2 := ⟨_, rfl⟩
  rw [← hm, ← hcm] at k1
  rw [← hm] at s1
  have hmc : m ≤ cm := by omega
  have S1 := hide s1
  have HX0 := hide hx0
  have HLN := hide hl
  have HM := hide hm
  have HCM := hide hcm
  have H := hide h
  clear h hx0 hx1 hl ho2 s1
  have h3 := and128_ge x1 h128 h256
  have h3' := and127_ge x1 h128 h256
  obtain ⟨kk, hkk⟩ : ∃ kk, kk = x1 - 128 := ⟨_, rfl⟩
  rw [← hkk] at hk0 hk4 hkn hL hLn h3'
  skip
  have hv4 : IntKind.i64.wrap ((kk : Int)) = (kk : Int) := by rw [IntKind.wrap_i64]; omega
  have h5 : ((kk : Int) == 0) = false := by simp; omega
  have h6 : ¬ (4 : Int) < (kk : Int) := by omega
  have h7 : ¬ (m : Int) < (kk : Int) := by omega
  have hL4 : (L : Int) < 4294967296 := by
    have hu := (uF_bound ((xs.drop 2).take kk) (fun x hx => H.out.byte x (List.mem_of_mem_drop (List.mem_of_mem_take hx)))).2
    have hp : (256 : Int) ^ ((xs.drop 2).take kk).length ≤ 256 ^ 4 := pow256 (by simp; omega)
    have e4 : (256 : Int) ^ 4 = 4294967296 := by decide
    omega
  have k4 := cut_hi b o2 m cm kk .i64 (by omega)
  have k5 := cut_lo b o2 m cm kk .i64 (by omega)
  obtain ⟨o3, ho3⟩ : ∃ o, o = offAt cm kk o2 := ⟨_, rfl⟩
  have s3 := S1.out.sub kk m cm (by omega) (Nat.le_refl _) hmc
  rw [← ho3] at k5 s3
  obtain ⟨m3, hm3⟩ : ∃ m3, m3 = m - kk := ⟨_, rfl⟩
  obtain ⟨c3, hc3⟩ : ∃ c3, c3 = cm - kk := ⟨_, rfl⟩
  rw [← hm3, ← hc3] at k5
  rw [← hm3, show (List.take m (List.drop 2 xs)) = xs.drop 2 by rw [List.take_of_length_le]; simp; have := HLN.out; omega, List.drop_drop] at s3
  have hmc3 : m3 ≤ c3 := by omega
  have S3 := hide s3
  have hv2 : IntKind.u64.wrap (m3 : Int) = (m3 : Int) := by rw [IntKind.wrap_u64]; omega
  have h8 : (m3 : Int) < (L : Int) := by omega
  have hkm : kk ≤ m := by omega
  have hv3 : (kk : Int) ≤ (cm : Int) := by omega
  have HL := hide hL
  have HM3 := hide hm3
  have HC3 := hide hc3
  have HKK := hide hkk
  clear hL hm hcm hm3 hc3 ho3 s3 hkk h128 h256 hLn hkn
  go_enter Ybad.func20, Ybad.ntmps20
  go_wp2_with fail
  go_loop [6, 56] (fun u i => ∃ (j : Nat) (a : Int), j ≤ kk ∧ i = .int .i64 j ∧ u = .int .u64 a ∧ Hid (a = uF 0 ((xs.drop 2).take j) ∧ 0 ≤ a ∧ a < 256 ^ j)) (fun _ i => kk - (intOf i).toNat)
  case atStart => exact ⟨0, 0, Nat.zero_le _, rfl, rfl, by simp [uF], by omega, by omega⟩
  case round =>
    obtain ⟨j, a, hjk, rfl, rfl, hI⟩ := hrel
    by_cases hlt : j < kk
    · obtain ⟨e1, e2, e3⟩ := hI.out
      obtain ⟨x, hx⟩ : ∃ x, x = (xs.drop 2).getD j 0 := ⟨_, rfl⟩
      have hbx := S1.out.at (i := j) (by omega)
      rw [← hx] at hbx
      have g2 : w.cell? ⟨b, o2 + j, none⟩ = some (.int .u8 x) := by rw [hx]; exact S1.out.cell j (by omega)
      have hp : (256 : Int) ^ j ≤ 256 ^ 3 := pow256 (by omega)
      have e3' : (256 : Int) ^ 3 = 16777216 := by decide
      rw [e3'] at hp
      have hj1 : (j : Int) < (kk : Int) := by omega
      have hj0 : (0 : Int) ≤ (j : Int) := by omega
      have hor := or8_u64 a x hbx.1 hbx.2 e2 (by omega)
      have hnew : a * 256 + x = uF 0 ((xs.drop 2).take (j + 1)) ∧ 0 ≤ a * 256 + x ∧ a * 256 + x < 256 ^ (j + 1) := by
        refine ⟨?_, ?_, ?_⟩
        · rw [uF_take _ _ (by rw [← S1.out.len]; omega), ← e1, hx]
        · omega
        · rw [Int.pow_succ]; omega
      have HN := hide hnew
      clear e1 e2 e3 hp hnew hx
      go_wp2_with fail
      go_round
      case rel => exact ⟨j + 1, a * 256 + x, by omega, by go_num, rfl, HN⟩
      case measure => simp [intOf]; omega
    · obtain rfl : kk = j := by omega
      have haL : a = (L : Int) := by rw [hI.out.1, HL.out]
      subst haL
      clear hI hlt hjk
      go_upto_region 17 with fail
      clear k1 k4 k5 g1 hi1 h3 h3' hv1 hv3 hv4 h5 h6 h7 hL4 hn2
      go_wp2_with fail
      go_ret3
      exact ⟨rfl, rfl⟩

set_option maxRecDepth 100000 in
set_option maxHeartbeats 1600000 in
theorem next_g (db b off n c : Nat) (xs : List Int) (w : World) (hd : w.cell? ⟨db, 0, none⟩ = some (.slice (some ⟨b, off, none⟩) n c)) (hz : w.frozen? ⟨db, 0, none⟩ = false) (h : Bytes w b off n xs) (hc : n ≤ c) (hn : n ≤ 1048576) (h2 : 2 ≤ n) (x1 : Nat) (hx1 : (x1 : Int) = xs.getD 1 0) (h128 : 128 ≤ x1) (h256 : x1 < 256) (hk0 : 0 < x1 - 128) (hk4 : x1 - 128 ≤ 4) (hkn : x1 - 128 ≤ n - 2) (L : Nat) (hL : (L : Int) = uF 0 ((xs.drop 2).take (x1 - 128))) (hLn : L ≤ n - (2 + (x1 - 128))) : Calls Ybad.prog 20 #[.pointer (some ⟨db, 0, none⟩)] w fun e w' => ∃ o1 c1 o2 c2 q, e = .returned (.tuple #[.int .u8 (xs.getD 0 0), .slice (some ⟨b, o1, none⟩) (L) c1, .bool true]) ∧ w' = (w.setCell ⟨db, 0, none⟩ (.slice (some ⟨b, o2, none⟩) (n - (2 + (x1 - 128) + L)) c2)).drewN q ∧ L ≤ c1 ∧ Bytes w b o1 (L) ((xs.take (2 + (x1 - 128) + L)).drop (2 + (x1 - 128))) ∧ Bytes w b o2 (n - (2 + (x1 - 128) + L)) (xs.drop (2 + (x1 - 128) + L)) := by
  have hn2 : ¬ (n : Int) < 2 := by omega
  have hl := h.len
  obtain ⟨x0, hx0⟩ : ∃ x, x = xs.getD 0 0 := ⟨_, rfl⟩
  have g0 : w.cell? ⟨b, off, none⟩ = some (.int .u8 x0) := by rw [hx0]; exact h.cell 0 (by omega)
  have g1 : w.cell? ⟨b, off + 1, none⟩ = some (.int .u8 (x1 : Nat)) := by rw [hx1]; exact h.cell 1 (by omega)
  have hi1 : (1 : Int) < (n : Int) := by omega
  have hi0 : (0 : Int) < (n : Int) := by omega
  have hx256 : x1 < 256 := by have := h.at (i := 1) (by omega); omega
  have hv1 : IntKind.u64.wrap (x1 : Int) = (x1 : Int) := by rw [IntKind.wrap_u64]; omega
  have k1 := cut_lo b off n c 2 .i64 h2
  rw [show ((2 : Nat) : Int) = 2 from rfl] at k1
  obtain ⟨o2, ho2⟩ : ∃ o, o = offAt c 2 off := ⟨_, rfl⟩
  have s1 := h.sub 2 n c h2 (Nat.le_refl _) hc
  rw [← ho2] at k1 s1
  rw [show xs.take n = xs by rw [h.len]; exact List.take_length] at s1
  obtain ⟨m, hm⟩ : ∃ m, m = n - 2 := ⟨_, rfl⟩
  obtain ⟨cm, hcm⟩ : ∃ cm, cm = c - 2 := ⟨_, rfl⟩
  rw [← hm, ← hcm] at k1
  rw [← hm] at s1
  have hmc : m ≤ cm := by omega
  have S1 := hide s1
  have HX0 := hide hx0
  have HLN := hide hl
  have HM := hide hm
  have HCM := hide hcm
  have H := hide h
  clear h hx0 hx1 hl ho2 s1
  have h3 := and128_ge x1 h128 h256
  have h3' := and127_ge x1 h128 h256
  obtain ⟨kk, hkk⟩ : ∃ kk, kk = x1 - 128 := ⟨_, rfl⟩
  rw [← hkk] at hk0 hk4 hkn hL hLn h3'
  rw [← hkk]
  have hv4 : IntKind.i64.wrap ((kk : Int)) = (kk : Int) := by rw [IntKind.wrap_i64]; omega
  have h5 : ((kk : Int) == 0) = false := by simp; omega
  have h6 : ¬ (4 : Int) < (kk : Int) := by omega
  have h7 : ¬ (m : Int) < (kk : Int) := by omega
  have hL4 : (L : Int) < 4294967296 := by
    have hu := (uF_bound ((xs.drop 2).take kk) (fun x hx => H.out.byte x (List.mem_of_mem_drop (List.mem_of_mem_take hx)))).2
    have hp : (256 : Int) ^ ((xs.drop 2).take kk).length ≤ 256 ^ 4 := pow256 (by simp; omega)
    have e4 : (256 : Int) ^ 4 = 4294967296 := by decide
    omega
  have k4 := cut_hi b o2 m cm kk .i64 (by omega)
  have k5 := cut_lo b o2 m cm kk .i64 (by omega)
  obtain ⟨o3, ho3⟩ : ∃ o, o = offAt cm kk o2 := ⟨_, rfl⟩
  have s3 := S1.out.sub kk m cm (by omega) (Nat.le_refl _) hmc
  rw [← ho3] at k5 s3
  obtain ⟨m3, hm3⟩ : ∃ m3, m3 = m - kk := ⟨_, rfl⟩
  obtain ⟨c3, hc3⟩ : ∃ c3, c3 = cm - kk := ⟨_, rfl⟩
  rw [← hm3, ← hc3] at k5
  rw [← hm3, show (List.take m (List.drop 2 xs)) = xs.drop 2 by rw [List.take_of_length_le]; simp; have := HLN.out; omega, List.drop_drop] at s3
  have hmc3 : m3 ≤ c3 := by omega
  have S3 := hide s3
  have hv2 : IntKind.u64.wrap (m3 : Int) = (m3 : Int) := by rw [IntKind.wrap_u64]; omega
  have h8 : ¬ (m3 : Int) < (L : Int) := by omega
  have hkm : kk ≤ m := by omega
  have hv3 : (kk : Int) ≤ (cm : Int) := by omega
  have k6 := cut_hi b o3 m3 c3 L .u64 (by omega)
  have k7 := cut_lo b o3 m3 c3 L .u64 (by omega)
  obtain ⟨o4, ho4⟩ : ∃ o, o = offAt c3 L o3 := ⟨_, rfl⟩
  have s4 := S3.out.sub L m3 c3 (by omega) (Nat.le_refl _) hmc3
  have s5 := S3.out.sub 0 L c3 (by omega) (by omega) (by omega)
  rw [← ho4] at k7 s4
  rw [offAt_zero] at s5
  have S4 := hide s4
  have S5 := hide s5
  clear s4 s5 ho4
  have HL := hide hL
  have HM3 := hide hm3
  have HC3 := hide hc3
  have HKK := hide hkk
  clear hL hm hcm hm3 hc3 ho3 s3 hkk h128 h256 hLn hkn
  go_enter Ybad.func20, Ybad.ntmps20
  go_wp2_with fail
  go_loop [6, 56] (fun u i => ∃ (j : Nat) (a : Int), j ≤ kk ∧ i = .int .i64 j ∧ u = .int .u64 a ∧ Hid (a = uF 0 ((xs.drop 2).take j) ∧ 0 ≤ a ∧ a < 256 ^ j)) (fun _ i => kk - (intOf i).toNat)
  case atStart => exact ⟨0, 0, Nat.zero_le _, rfl, rfl, by simp [uF], by omega, by omega⟩
  case round =>
    obtain ⟨j, a, hjk, rfl, rfl, hI⟩ := hrel
    by_cases hlt : j < kk
    · obtain ⟨e1, e2, e3⟩ := hI.out
      obtain ⟨x, hx⟩ : ∃ x, x = (xs.drop 2).getD j 0 := ⟨_, rfl⟩
      have hbx := S1.out.at (i := j) (by omega)
      rw [← hx] at hbx
      have g2 : w.cell? ⟨b, o2 + j, none⟩ = some (.int .u8 x) := by rw [hx]; exact S1.out.cell j (by omega)
      have hp : (256 : Int) ^ j ≤ 256 ^ 3 := pow256 (by omega)
      have e3' : (256 : Int) ^ 3 = 16777216 := by decide
      rw [e3'] at hp
      have hj1 : (j : Int) < (kk : Int) := by omega
      have hj0 : (0 : Int) ≤ (j : Int) := by omega
      have hor := or8_u64 a x hbx.1 hbx.2 e2 (by omega)
      have hnew : a * 256 + x = uF 0 ((xs.drop 2).take (j + 1)) ∧ 0 ≤ a * 256 + x ∧ a * 256 + x < 256 ^ (j + 1) := by
        refine ⟨?_, ?_, ?_⟩
        · rw [uF_take _ _ (by rw [← S1.out.len]; omega), ← e1, hx]
        · omega
        · rw [Int.pow_succ]; omega
      have HN := hide hnew
      clear e1 e2 e3 hp hnew hx
      go_wp2_with fail
      go_round
      case rel => exact ⟨j + 1, a * 256 + x, by omega, by go_num, rfl, HN⟩
      case measure => simp [intOf]; omega
    · obtain rfl : kk = j := by omega
      have haL : a = (L : Int) := by rw [hI.out.1, HL.out]
      subst haL
      clear hI hlt hjk
      go_upto_region 17 with fail
      clear k1 k4 k5 g1 hi1 h3 h3' hv1 hv3 hv4 h5 h6 h7 hL4 hn2
      go_wp2_with fail
      refine wp_region_held_drew (S := fun w' => True) (by kernel_rfl) ?_ (fun hHeld => ?_)
      · trivial
      refine wpAnyH_take (i := 0) (oi := { dst := some 74, op := Op.move (Operand.tmp 0), type := 31, pos := "snmp.go:513", after := #[{ on := 7, ground := Ground.gcOnly Departure.lateStores }], guard := none }) (v := ?_) rfl (by kernel_rfl) (by kernel_rfl) (by kernel_rfl) (fun _ _ _ h => h) (Or.inl ⟨by rfl, ?_⟩) hHeld ?_
      rotate_left
      · intro w hSw
        (try dsimp only at hSw)
        go_simp
        try with_reducible rfl
      try simp only [Act.put, List.setIfInBounds_toArray, List.set_cons_zero, List.set_cons_succ]
      refine wpAnyH_take (i := 1) (oi := { dst := some 75, op := Op.move (Operand.tmp 5), type := 22, pos := "snmp.go:513", after := #[], guard := none }) (v := ?_) rfl (by kernel_rfl) (by kernel_rfl) (by kernel_rfl) (fun _ _ _ h => h) (Or.inl ⟨by rfl, ?_⟩) hHeld ?_
      rotate_left
      · intro w hSw
        (try dsimp only at hSw)
        go_simp
        try with_reducible rfl
      try simp only [Act.put, List.setIfInBounds_toArray, List.set_cons_zero, List.set_cons_succ]
      refine wpAnyH_take (i := 2) (oi := { dst := some 76, op := Op.move (Operand.tmp 6), type := 38, pos := "snmp.go:513", after := #[], guard := none }) (v := ?_) rfl (by kernel_rfl) (by kernel_rfl) (by kernel_rfl) (fun _ _ _ h => h) (Or.inl ⟨by rfl, ?_⟩) hHeld ?_
      rotate_left
      · intro w hSw
        (try dsimp only at hSw)
        go_simp
        try with_reducible rfl
      try simp only [Act.put, List.setIfInBounds_toArray, List.set_cons_zero, List.set_cons_succ]
      refine wpAnyH_take (i := 3) (oi := { dst := some 77, op := Op.slice 22 (Operand.tmp 75) none (some (Operand.tmp 76)) none, type := 22, pos := "snmp.go:513", after := #[{ on := 1, ground := Ground.data }, { on := 2, ground := Ground.data }], guard := none }) (v := ?_) rfl (by kernel_rfl) (by kernel_rfl) (by kernel_rfl) (fun _ _ _ h => h) (Or.inl ⟨by rfl, ?_⟩) hHeld ?_
      rotate_left
      · intro w hSw
        (try dsimp only at hSw)
        go_simp
        try with_reducible rfl
      try simp only [Act.put, List.setIfInBounds_toArray, List.set_cons_zero, List.set_cons_succ]
      refine wpAnyH_take (i := 4) (oi := { dst := some 78, op := Op.move (Operand.tmp 5), type := 22, pos := "snmp.go:513", after := #[], guard := none }) (v := ?_) rfl (by kernel_rfl) (by kernel_rfl) (by kernel_rfl) (fun _ _ _ h => h) (Or.inl ⟨by rfl, ?_⟩) hHeld ?_
      rotate_left
      · intro w hSw
        (try dsimp only at hSw)
        go_simp
        try with_reducible rfl
      try simp only [Act.put, List.setIfInBounds_toArray, List.set_cons_zero, List.set_cons_succ]
      refine wpAnyH_take (i := 5) (oi := { dst := some 79, op := Op.move (Operand.tmp 6), type := 38, pos := "snmp.go:513", after := #[], guard := none }) (v := ?_) rfl (by kernel_rfl) (by kernel_rfl) (by kernel_rfl) (fun _ _ _ h => h) (Or.inl ⟨by rfl, ?_⟩) hHeld ?_
      rotate_left
      · intro w hSw
        (try dsimp only at hSw)
        go_simp
        try with_reducible rfl
      try simp only [Act.put, List.setIfInBounds_toArray, List.set_cons_zero, List.set_cons_succ]
      refine wpAnyH_take (i := 6) (oi := { dst := some 80, op := Op.slice 22 (Operand.tmp 78) (some (Operand.tmp 79)) none none, type := 22, pos := "snmp.go:513", after := #[{ on := 4, ground := Ground.data }, { on := 5, ground := Ground.data }], guard := none }) (v := ?_) rfl (by kernel_rfl) (by kernel_rfl) (by kernel_rfl) (fun _ _ _ h => h) (Or.inl ⟨by rfl, ?_⟩) hHeld ?_
      rotate_left
      · intro w hSw
        (try dsimp only at hSw)
        go_simp
        try with_reducible rfl
      try simp only [Act.put, List.setIfInBounds_toArray, List.set_cons_zero, List.set_cons_succ]
      refine wpAnyH_take (i := 7) (oi := { dst := some 3, op := Op.assign (Operand.tmp 77), type := 22, pos := "snmp.go:513", after := #[{ on := 3, ground := Ground.data }, { on := 0, ground := Ground.textOnly Departure.lateStores }, { on := 1, ground := Ground.phase }, { on := 2, ground := Ground.phase }, { on := 3, ground := Ground.phase }, { on := 4, ground := Ground.textOnly Departure.lateStores }, { on := 5, ground := Ground.textOnly Departure.lateStores }, { on := 6, ground := Ground.textOnly Departure.lateStoresUnsure }], guard := none }) (v := ?_) rfl (by kernel_rfl) (by kernel_rfl) (by kernel_rfl) (fun _ _ _ h => h) (Or.inl ⟨by rfl, ?_⟩) hHeld ?_
      rotate_left
      · intro w hSw
        (try dsimp only at hSw)
        go_simp
        try with_reducible rfl
      try simp only [Act.put, List.setIfInBounds_toArray, List.set_cons_zero, List.set_cons_succ]
      refine wpAnyH_take (i := 8) (oi := { dst := some 81, op := Op.nilCheck (Operand.tmp 74), type := 0, pos := "snmp.go:513", after := #[{ on := 0, ground := Ground.data }, { on := 0, ground := Ground.phase }, { on := 1, ground := Ground.phase }, { on := 2, ground := Ground.phase }, { on := 3, ground := Ground.phase }, { on := 4, ground := Ground.phase }, { on := 5, ground := Ground.phase }, { on := 6, ground := Ground.phase }, { on := 7, ground := Ground.phase }], guard := none }) (v := ?_) rfl (by kernel_rfl) (by kernel_rfl) (by kernel_rfl) (fun _ _ _ h => h) (Or.inl ⟨by rfl, ?_⟩) hHeld ?_
      rotate_left
      · intro w hSw
        (try dsimp only at hSw)
        go_simp
        try with_reducible rfl
      try simp only [Act.put, List.setIfInBounds_toArray, List.set_cons_zero, List.set_cons_succ]
      refine wpAnyH_take (i := 9) (oi := { dst := some 82, op := Op.fieldAddr 33 (Operand.tmp 81) 0, type := 0, pos := "snmp.go:513", after := #[{ on := 8, ground := Ground.data }, { on := 0, ground := Ground.phase }, { on := 1, ground := Ground.phase }, { on := 2, ground := Ground.phase }, { on := 3, ground := Ground.phase }, { on := 4, ground := Ground.phase }, { on := 5, ground := Ground.phase }, { on := 6, ground := Ground.phase }, { on := 7, ground := Ground.phase }], guard := none }) (v := ?_) rfl (by kernel_rfl) (by kernel_rfl) (by kernel_rfl) (fun _ _ _ h => h) (Or.inl ⟨by rfl, ?_⟩) hHeld ?_
      rotate_left
      · intro w hSw
        (try dsimp only at hSw)
        go_simp
        try with_reducible rfl
      try simp only [Act.put, List.setIfInBounds_toArray, List.set_cons_zero, List.set_cons_succ]
      refine wpAnyH_ready (rs := [10]) (by kernel_rfl) (by simp) ?_
      refine AllReadyH.cons (o := { dst := none, op := Op.store 22 (Operand.tmp 82) (Operand.tmp 80), type := 0, pos := "snmp.go:513", after := #[{ on := 9, ground := Ground.data }, { on := 6, ground := Ground.data }, { on := 7, ground := Ground.chain }, { on := 0, ground := Ground.phase }, { on := 1, ground := Ground.phase }, { on := 2, ground := Ground.phase }, { on := 3, ground := Ground.phase }, { on := 4, ground := Ground.phase }, { on := 5, ground := Ground.phase }, { on := 6, ground := Ground.phase }, { on := 7, ground := Ground.phase }], guard := none }) rfl (fun K hK => ?_) AllReadyH.nil
      have hd' : w.drew.cell? ⟨db, 0, none⟩ = some (.slice (some ⟨b, off, none⟩) n c) := hd
      have hz' : w.drew.frozen? ⟨db, 0, none⟩ = false := hz
      go_simp
      refine hK.out _ _ ?_ (fun hHeld => ?_)
      · trivial
      clear hK K
      try simp only [Act.put]
      refine wpAnyH_done (by kernel_rfl) ?_ _
      go_wp2_with fail
      go_ret3
      have e1 := HM.out
      have e2 := HCM.out
      have e3 := HLN.out
      have e4 := HM3.out
      have e5 := HC3.out
      refine ⟨o3, c3, o4, c3 - L, 1, ?_, ?_, by omega, ?_, ?_⟩
      · rw [← HX0.out]
        rfl
      · rw [show n - (2 + kk + L) = m3 - L by omega]
        rfl
      · have := S5.out
        rw [Nat.sub_zero, List.drop_zero] at this
        rw [show (xs.take (2 + kk + L)).drop (2 + kk) = (xs.drop (2 + kk)).take L by rw [List.drop_take]; congr 1; omega]
        exact this
      · have := S4.out
        rw [show (List.take m3 (List.drop (2 + kk) xs)) = xs.drop (2 + kk) by rw [List.take_of_length_le]; simp; omega, List.drop_drop] at this
        rw [show n - (2 + kk + L) = m3 - L by omega]
        exact this
end Go.Proofs.YbulkdphmDoor
