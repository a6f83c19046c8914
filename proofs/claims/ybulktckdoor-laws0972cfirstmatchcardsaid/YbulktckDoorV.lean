import Derived.Test.YbulktckDoorL
import Derived.ProofKit
import Derived.LaidLaws
import Derived.MakeChecks
import Derived.OpenShut
import Derived.Stop.Joined
import Derived.Deep.Slices
namespace Go.Proofs.YbulktckDoor.Net
open Go.ChangeShapes Go.WideShapes Go.ChangeAt Go.RowKit

theorem own : ownKnob Ybad.prog.godebug = none := by kernel_rfl
theorem laidOut : laidOutB Ybad.prog = true := by kernel_rfl
theorem nZ4 : Ybad.prog.globalNamed "net/netip.z4" = some 0 := by kernel_rfl
theorem nZ6 : Ybad.prog.globalNamed "net/netip.z6noz" = some 1 := by kernel_rfl
theorem nZ0 : Ybad.prog.globalNamed "net/netip.z0" = some 2 := by kernel_rfl
theorem tZ4 : (Ybad.prog.globals[0]?).map (·.type) = some 31 := by kernel_rfl
theorem tZ6 : (Ybad.prog.globals[1]?).map (·.type) = some 31 := by kernel_rfl
theorem tZ0 : (Ybad.prog.globals[2]?).map (·.type) = some 31 := by kernel_rfl
theorem c29 : Ybad.prog.cellsOf 29 = 1 := by kernel_rfl
theorem c31 : Ybad.prog.cellsOf 31 = 1 := by kernel_rfl
theorem c79 : Ybad.prog.cellsOf 79 = 2 := by kernel_rfl

abbrev laid3 : List (String × DataW Unit) := [("net/netip.z4", Rows.laid_net_netip_z4), ("net/netip.z6noz", Rows.laid_net_netip_z6noz), ("net/netip.z0", Rows.laid_net_netip_z0)]

/-- A handle that holds a pointer. -/
theorem handle_of {H : Type} {enc : TypeId × Value → H} {W : World} {sp : Nat → Bool} {held : Bool} {fuel : Nat} {cs : List Value} {d : DataW H} {p : List MemPlace} (h : DataW.trod enc Ybad.prog W 0 sp held fuel 31 cs = some (.agg [.ptr d], p)) :
    ∃ a q, cs = [.pointer (some a)] ∧ p = MemPlace.row a 2 ++ q := by
  obtain ⟨xs, n, _, hx, hl, hxl, hf⟩ := DataW.trod_struct Ybad.underlying31 h
  have h0 : DataW.trod enc Ybad.prog W 0 sp held n 29 (List.take (Ybad.prog.cellsOf 29) (List.drop 0 cs)) = xs[0]? := hf 0 _ rfl
  rw [c31] at hl
  match xs, hxl, cs, hl with
  | [y0], _, [c], _ =>
    simp only [Prod.mk.injEq, List.map_cons, List.map_nil, DataW.agg.injEq, List.cons.injEq, and_true, List.flatMap_cons, List.flatMap_nil, List.append_nil] at hx
    obtain ⟨hx1, rfl⟩ := hx
    obtain ⟨d0, p0⟩ := y0
    obtain rfl : DataW.ptr d = d0 := hx1
    rw [show ([(DataW.ptr d, p0)] : List (DataW H × List MemPlace))[0]? = some (DataW.ptr d, p0) from rfl] at h0
    obtain ⟨f2, a, cs', q, hcs, _, _, rfl⟩ := ptr_of_trod Ybad.underlying29 h0
    rw [c29] at hcs
    rw [c79]
    refine ⟨a, q, ?_, rfl⟩
    simpa using hcs

/-- A handle that holds nil. -/
theorem handle_nil {H : Type} {enc : TypeId × Value → H} {W : World} {sp : Nat → Bool} {held : Bool} {fuel : Nat} {cs : List Value} {p : List MemPlace} (h : DataW.trod enc Ybad.prog W 0 sp held fuel 31 cs = some (.agg [.nil], p)) :
    cs = [.pointer none] := by
  obtain ⟨xs, n, _, hx, hl, hxl, hf⟩ := DataW.trod_struct Ybad.underlying31 h
  have h0 : DataW.trod enc Ybad.prog W 0 sp held n 29 (List.take (Ybad.prog.cellsOf 29) (List.drop 0 cs)) = xs[0]? := hf 0 _ rfl
  rw [c31] at hl
  match xs, hxl, cs, hl with
  | [y0], _, [c], _ =>
    simp only [Prod.mk.injEq, List.map_cons, List.map_nil, DataW.agg.injEq, List.cons.injEq, and_true, List.flatMap_cons, List.flatMap_nil, List.append_nil] at hx
    obtain ⟨hx1, rfl⟩ := hx
    obtain ⟨d0, p0⟩ := y0
    obtain rfl : DataW.nil = d0 := hx1
    rw [show ([(DataW.nil, p0)] : List (DataW H × List MemPlace))[0]? = some (DataW.nil, p0) from rfl, c29] at h0
    simp only [List.drop_zero, List.take_succ_cons, List.take_zero] at h0
    rcases DataW.trod_pointer Ybad.underlying29 h0 with ⟨hc, _⟩ | hc
    · exact hc
    · simp at hc

theorem of_laid {W : World} (h : laidMetH Ybad.prog laid3 W) : ∃ p4 p6, ZZ W p4 p6 := by
  rw [MakeChecks.laidMetH_plain _ _ _ (by kernel_rfl)] at h
  obtain ⟨ps, ⟨g0, t0, cs0, f0, p0, q0, hg0, ht0, hv0, hd0, ⟨g1, t1, cs1, f1, p1, q1, hg1, ht1, hv1, hd1, ⟨g2, t2, cs2, f2, p2, q2, hg2, ht2, hv2, hd2, hq2, e2⟩, e1⟩, e0⟩, hnd, hrows⟩ := h
  obtain rfl := Option.some.inj (nZ4.symm.trans hg0)
  obtain rfl := Option.some.inj (nZ6.symm.trans hg1)
  obtain rfl := Option.some.inj (nZ0.symm.trans hg2)
  obtain rfl := Option.some.inj (tZ4.symm.trans ht0)
  obtain rfl := Option.some.inj (tZ6.symm.trans ht1)
  obtain rfl := Option.some.inj (tZ0.symm.trans ht2)
  subst e2
  subst e1
  subst e0
  obtain ⟨l0⟩ := cs0
  obtain ⟨l1⟩ := cs1
  obtain ⟨l2⟩ := cs2
  obtain ⟨p4, r4, rfl, rfl⟩ := handle_of hd0
  obtain ⟨p6, r6, rfl, rfl⟩ := handle_of hd1
  obtain rfl := handle_nil hd2
  obtain ⟨ca, ta, hba⟩ := (hrows p4.block p4.off (by simp [MemPlace.row])).1
  obtain ⟨cb, tb, hbb⟩ := (hrows p6.block p6.off (by simp [MemPlace.row])).1
  have k0 : W.cell? ⟨0, 0, none⟩ = some (.pointer (some p4)) := by simpa using World.var?_cell nZ4 hv0 0
  have k1 : W.cell? ⟨1, 0, none⟩ = some (.pointer (some p6)) := by simpa using World.var?_cell nZ6 hv1 0
  have k2 : W.cell? ⟨2, 0, none⟩ = some (.pointer none) := by simpa using World.var?_cell nZ0 hv2 0
  refine ⟨p4, p6, k0, k1, k2, ?_, ⟨ca, ta, hba⟩, ⟨cb, tb, hbb⟩, lt_of_cell k2⟩
  rintro rfl
  simp [MemPlace.row, List.range_succ] at hnd

end Go.Proofs.YbulktckDoor.Net
