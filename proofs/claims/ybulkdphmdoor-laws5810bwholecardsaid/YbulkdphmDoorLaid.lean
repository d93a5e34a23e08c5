/-
  What the row's listed variables give the walk.
-/
import Derived.Test.YbulkdphmDoorRows
import Derived.ProofKit
import Derived.LaidMore
import Derived.LaidLaws
import Derived.Lib.LaidTab
import Derived.MakeChecks
import Derived.Test.YbulkdphmDoorNum
import Derived.Test.YbulkdphmDoorIp0
namespace Go.Proofs.YbulkdphmDoor
open Go.ChangeShapes Go.WideShapes Go.ChangeAt Go.RowKit
set_option maxRecDepth 100000

theorem own : ownKnob Ybad.prog.godebug = none := by kernel_rfl
theorem gPow : Ybad.prog.globalNamed "internal/strconv.uint64pow10" = some 1 := by kernel_rfl
theorem gZ4 : Ybad.prog.globalNamed "net/netip.z4" = some 0 := by kernel_rfl
theorem gZ6 : Ybad.prog.globalNamed "net/netip.z6noz" = some 2 := by kernel_rfl
theorem gZ0 : Ybad.prog.globalNamed "net/netip.z0" = some 3 := by kernel_rfl
theorem tPow : (Ybad.prog.globals[1]?).map (·.type) = some 77 := by kernel_rfl
theorem tZ4 : (Ybad.prog.globals[0]?).map (·.type) = some 57 := by kernel_rfl
theorem tZ6 : (Ybad.prog.globals[2]?).map (·.type) = some 57 := by kernel_rfl
theorem tZ0 : (Ybad.prog.globals[3]?).map (·.type) = some 57 := by kernel_rfl
theorem und57 : Ybad.prog.underlying 57 = some (.struct #[{ name := "value", type := 55, offset := 0, embedded := false, tag := "", pkgPath := "unique", byteOffset := 0 }]) := by kernel_rfl
theorem und55 : Ybad.prog.underlying 55 = some (.pointer 91) := by kernel_rfl
theorem n57 : Ybad.prog.cellsOf 57 = 1 := by kernel_rfl
theorem n91 : Ybad.prog.cellsOf 91 = 2 := by kernel_rfl
theorem n77 : Ybad.prog.cellsOf 77 = 20 := by kernel_rfl
theorem n38 : Ybad.prog.cellsOf 38 = 1 := by kernel_rfl
theorem laid_pow : (Rows.laid_internal_strconv_uint64pow10 : DataW Unit) = Lib.tabData .u64 Lib.pow10Tab := by
  simp [Rows.laid_internal_strconv_uint64pow10, Lib.tabData, Lib.pow10Tab, List.range, List.range.loop]

theorem handle_field {W : World} {fuel : Nat} {cs : Array Value} {d : DataW Unit} {p : List MemPlace}
    (h : DataW.trod (fun _ => ()) Ybad.prog W 0 (fun _ => true) false fuel 57 cs.toList = some (.agg [d], p)) :
    ∃ v n q, cs[0]? = some v ∧ DataW.trod (fun _ => ()) Ybad.prog W 0 (fun _ => true) false n 55 [v] = some (d, q) ∧ p = q := by
  obtain ⟨l⟩ := cs
  obtain ⟨xs, n, rfl, hx, hl, hlen, hf⟩ := DataW.trod_struct und57 h
  rw [n57] at hl
  match l, hl, xs, hlen with
  | [c], _, [y], _ =>
    have f0 : DataW.trod (fun _ => ()) Ybad.prog W 0 (fun _ => true) false n 55 [c] = some y := hf 0 _ rfl
    simp only [List.map_cons, List.map_nil, List.flatMap_cons, List.flatMap_nil, List.append_nil, Prod.mk.injEq, DataW.agg.injEq, List.cons.injEq, and_true] at hx
    exact ⟨c, n, y.2, rfl, by rw [hx.1]; exact f0, hx.2⟩

theorem handle_ptr {W : World} {fuel : Nat} {cs : Array Value} {d : DataW Unit} {p : List MemPlace}
    (h : DataW.trod (fun _ => ()) Ybad.prog W 0 (fun _ => true) false fuel 57 cs.toList = some (.agg [.ptr d], p)) :
    ∃ a, cs[0]? = some (.pointer (some a)) ∧ MemPlace.cell a.block a.off ∈ p := by
  obtain ⟨v, n, q, hv, ht, rfl⟩ := handle_field h
  obtain ⟨n', a, cs', q', hc, _, _, rfl⟩ := ptr_of_trod und55 ht
  obtain rfl : v = .pointer (some a) := by simpa using hc
  refine ⟨a, hv, ?_⟩
  rw [n91]
  simp [MemPlace.row, List.range, List.range.loop]

theorem handle_nil {W : World} {fuel : Nat} {cs : Array Value} {p : List MemPlace}
    (h : DataW.trod (fun _ => ()) Ybad.prog W 0 (fun _ => true) false fuel 57 cs.toList = some (.agg [.nil], p)) :
    cs[0]? = some (.pointer none) := by
  obtain ⟨v, n, q, hv, ht, rfl⟩ := handle_field h
  rcases DataW.trod_pointer und55 ht with ⟨hc, _⟩ | ⟨a, cs', y, m, _, _, hx, _, _⟩
  · obtain rfl : v = .pointer none := by simpa using hc
    exact hv
  · simp at hx

/-- WHAT THE ROW'S LISTED VARIABLES GIVE THE WALK: the table of tens, the two marks apart, the empty one. -/
theorem of_laid {W : World} (h : laidMetH Ybad.prog Rows.lawS5810BWholeRow.laid W) : Tab W ∧ ∃ a4 a6, Zs W a4 a6 := by
  rw [MakeChecks.laidMetH_plain _ _ _ (by kernel_rfl)] at h
  obtain ⟨ps, ⟨g0, t0, cs0, f0, p0, q0, hg0, ht0, hv0, hd0, ⟨g1, t1, cs1, f1, p1, q1, hg1, ht1, hv1, hd1, ⟨g2, t2, cs2, f2, p2, q2, hg2, ht2, hv2, hd2, ⟨g3, t3, cs3, f3, p3, q3, hg3, ht3, hv3, hd3, ⟨g4, t4, cs4, f4, p4, q4, hg4, ht4, hv4, hd4, ⟨g5, t5, cs5, f5, p5, q5, hg5, ht5, hv5, hd5, _, e5⟩, e4⟩, e3⟩, e2⟩, e1⟩, e0⟩, hnd, hrows⟩ := h
  obtain rfl := Option.some.inj (gPow.symm.trans hg2)
  obtain rfl := Option.some.inj (gZ4.symm.trans hg3)
  obtain rfl := Option.some.inj (gZ6.symm.trans hg4)
  obtain rfl := Option.some.inj (gZ0.symm.trans hg5)
  obtain rfl := Option.some.inj (tPow.symm.trans ht2)
  obtain rfl := Option.some.inj (tZ4.symm.trans ht3)
  obtain rfl := Option.some.inj (tZ6.symm.trans ht4)
  obtain rfl := Option.some.inj (tZ0.symm.trans ht5)
  rw [laid_pow] at hd2
  have tab : Tab W := by
    show W.var? Ybad.prog "internal/strconv.uint64pow10" = _
    rw [hv2, ← Lib.cells_of_tab Ybad.underlying77 Ybad.underlying38 n38 n77 hd2]
  obtain ⟨a4, c4, m4⟩ := handle_ptr hd3
  obtain ⟨a6, c6, m6⟩ := handle_ptr hd4
  have c0 := handle_nil hd5
  have i4 : MemPlace.cell a4.block a4.off ∈ ps := by rw [e0, e1, e2, e3]; simp [m4]
  have i6 : MemPlace.cell a6.block a6.off ∈ ps := by rw [e0, e1, e2, e3, e4]; simp [m6]
  refine ⟨tab, a4, a6, ⟨(World.var?_cell hg3 hv3 0).trans c4, (World.var?_cell hg4 hv4 0).trans c6, (World.var?_cell hg5 hv5 0).trans c0, (hrows _ _ i4).1, (hrows _ _ i6).1, fun e => ?_⟩⟩
  subst e
  rw [e0, e1, e2, e3] at hnd
  have h3 := (List.nodup_append.1 (List.nodup_append.1 (List.nodup_append.1 (List.nodup_append.1 hnd).2.1).2.1).2.1).2.2
  exact h3 (.cell a4.block a4.off) (List.mem_append_right _ m4) (.cell a4.block a4.off) (by rw [e4]; exact List.mem_append_left _ (List.mem_append_right _ m6)) rfl
end Go.Proofs.YbulkdphmDoor
