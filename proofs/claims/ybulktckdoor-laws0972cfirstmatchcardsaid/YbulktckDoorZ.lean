import Derived.Test.YbulktckDoorRows
import Derived.WalkKit
import Derived.RegionTactic
import Derived.BigRegion
import Derived.LaidEqlPtr
import Derived.Deep.QuietTactic
import Derived.BigQuiet
import Derived.Deep.OwnRows
import Derived.LoopTactic
import Derived.Outline
namespace Go.Proofs.YbulktckDoor.Net
open Go.RowKit

/-- What the three package-level variables hold. -/
structure ZZ (w : World) (p4 p6 : Addr) : Prop where
  g0 : w.cell? ⟨0, 0, none⟩ = some (.pointer (some p4))
  g1 : w.cell? ⟨1, 0, none⟩ = some (.pointer (some p6))
  g2 : w.cell? ⟨2, 0, none⟩ = some (.pointer none)
  ne : p6 ≠ p4
  b4 : ∃ c t, w.heap[p4.block]? = some (.cells c t (0, 0))
  b6 : ∃ c t, w.heap[p6.block]? = some (.cells c t (0, 0))
  sz : 3 ≤ w.heap.size

theorem ZZ.later {B : Nat} {w w' : World} {p4 p6 : Addr} (Z : ZZ w p4 p6) (h : Below B w w') (hB : w.heap.size ≤ B) : ZZ w' p4 p6 := by
  have h3 := Z.sz
  have hs := h.size
  refine ⟨?_, ?_, ?_, Z.ne, ?_, ?_, by omega⟩
  · rw [h.cell (p := ⟨0, 0, none⟩) (by show 0 < B; omega)]; exact Z.g0
  · rw [h.cell (p := ⟨1, 0, none⟩) (by show 1 < B; omega)]; exact Z.g1
  · rw [h.cell (p := ⟨2, 0, none⟩) (by show 2 < B; omega)]; exact Z.g2
  · obtain ⟨c, t, hb⟩ := Z.b4
    obtain ⟨hlt, _⟩ := Array.getElem?_eq_some_iff.1 hb
    exact ⟨c, t, by rw [h.block _ (by omega)]; exact hb⟩
  · obtain ⟨c, t, hb⟩ := Z.b6
    obtain ⟨hlt, _⟩ := Array.getElem?_eq_some_iff.1 hb
    exact ⟨c, t, by rw [h.block _ (by omega)]; exact hb⟩

theorem ZZ.alloc {w : World} {p4 p6 : Addr} (Z : ZZ w p4 p6) (o : Obj) : ZZ (w.alloc o) p4 p6 := Z.later ((Below.refl w.heap.size w).alloc (Nat.le_refl _) o) (Nat.le_refl _)

theorem info79 : ∃ i, Ybad.prog.info? 79 = some i ∧ i.size ≠ 0 := by
  obtain ⟨i, hi, h⟩ := Option.map_eq_some_iff.1 (show (Ybad.prog.info? 79).map (fun i => i.size) = some 2 by kernel_rfl)
  exact ⟨i, hi, by omega⟩

theorem ptr_same (d : Nat) (a : Addr) (w : World) : (Op.equalIn (d + 1) 29 (.pointer (some a)) (.pointer (some a))).run Ybad.prog w = .ok true w := by
  obtain ⟨j, hj, _⟩ := info79
  simp [Op.equalIn, run_underlying Ybad.underlying29, sizeOf, typeInfo, hj, run_sameAddr_same]

theorem ptr_nil (d : Nat) (a : Addr) (w : World) : (Op.equalIn (d + 1) 29 (.pointer (some a)) (.pointer none)).run Ybad.prog w = .ok false w := by
  simp [Op.equalIn, run_underlying Ybad.underlying29]

theorem ZZ.other {w : World} {p4 p6 : Addr} (Z : ZZ w p4 p6) (d : Nat) : (Op.equalIn (d + 1) 29 (.pointer (some p6)) (.pointer (some p4))).run Ybad.prog w = .ok false w := by
  obtain ⟨j, hj, hs⟩ := info79
  obtain ⟨c4, t4, h4⟩ := Z.b4
  obtain ⟨c6, t6, h6⟩ := Z.b6
  simp [Op.equalIn, run_underlying Ybad.underlying29, sizeOf, typeInfo, hj, hs, run_sameAddr_other w Z.ne h6 h4]

abbrev addr (hi lo : Int) (z : Addr) : Value := .agg #[.int .u64 hi, .int .u64 lo, .pointer (some z)]

set_option maxRecDepth 100000 in
theorem isZero_any (hi lo : Int) (z : Addr) (p4 p6 : Addr) (w : World) (Z : ZZ w p4 p6) :
    Calls Ybad.prog 16 #[addr hi lo z] w fun e w' => e = .returned (.bool false) ∧ Below w.heap.size w w' := by
  have hs := ptr_same
  have hn := ptr_nil
  have s0 : 0 < w.heap.size := by have := Z.sz; omega
  have s1 : 1 < w.heap.size := by have := Z.sz; omega
  have s2 : 2 < w.heap.size := by have := Z.sz; omega
  have g0 := Z.g0
  have g1 := Z.g1
  have g2 := Z.g2
  clear Z
  go_enter Ybad.func16, Ybad.ntmps16
  go_wp2
  go_ret
  exact ⟨rfl, (Below.refl _ _).alloc (Nat.le_refl _) _⟩

set_option maxRecDepth 100000 in
theorem bitLen4 (hi lo : Int) (p4 p6 : Addr) (w : World) (Z : ZZ w p4 p6) :
    Calls Ybad.prog 17 #[addr hi lo p4] w fun e w' => e = .returned (.int .i64 32) ∧ Below w.heap.size w w' := by
  have hs := ptr_same
  have hn := ptr_nil
  have s0 : 0 < w.heap.size := by have := Z.sz; omega
  have s1 : 1 < w.heap.size := by have := Z.sz; omega
  have s2 : 2 < w.heap.size := by have := Z.sz; omega
  have g0 := Z.g0
  have g1 := Z.g1
  have g2 := Z.g2
  clear Z
  go_enter Ybad.func17, Ybad.ntmps17
  go_wp2
  go_ret
  exact ⟨rfl, (Below.refl _ _).alloc (Nat.le_refl _) _⟩

set_option maxRecDepth 100000 in
theorem bitLen6 (hi lo : Int) (p4 p6 : Addr) (w : World) (Z : ZZ w p4 p6) :
    Calls Ybad.prog 17 #[addr hi lo p6] w fun e w' => e = .returned (.int .i64 128) ∧ Below w.heap.size w w' := by
  have hs := ptr_same
  have hn := ptr_nil
  have s0 : 0 < w.heap.size := by have := Z.sz; omega
  have s1 : 1 < w.heap.size := by have := Z.sz; omega
  have s2 : 2 < w.heap.size := by have := Z.sz; omega
  have g0 := Z.g0
  have g1 := Z.g1
  have g2 := Z.g2
  have ho := fun o d => (Z.alloc o).other d
  clear Z
  go_enter Ybad.func17, Ybad.ntmps17
  go_wp2
  go_ret
  exact ⟨rfl, (Below.refl _ _).alloc (Nat.le_refl _) _⟩

set_option maxRecDepth 100000 in
theorem is6_4 (hi lo : Int) (p4 p6 : Addr) (w : World) (Z : ZZ w p4 p6) :
    Calls Ybad.prog 28 #[addr hi lo p4] w fun e w' => e = .returned (.bool false) ∧ Below w.heap.size w w' := by
  have hs := ptr_same
  have hn := ptr_nil
  have s0 : 0 < w.heap.size := by have := Z.sz; omega
  have s1 : 1 < w.heap.size := by have := Z.sz; omega
  have s2 : 2 < w.heap.size := by have := Z.sz; omega
  have g0 := Z.g0
  have g1 := Z.g1
  have g2 := Z.g2
  clear Z
  go_enter Ybad.func28, Ybad.ntmps28
  go_wp2
  go_ret
  exact ⟨rfl, (Below.refl _ _).alloc (Nat.le_refl _) _⟩

set_option maxRecDepth 100000 in
theorem is6_6 (hi lo : Int) (p4 p6 : Addr) (w : World) (Z : ZZ w p4 p6) :
    Calls Ybad.prog 28 #[addr hi lo p6] w fun e w' => e = .returned (.bool true) ∧ Below w.heap.size w w' := by
  have hs := ptr_same
  have hn := ptr_nil
  have s0 : 0 < w.heap.size := by have := Z.sz; omega
  have s1 : 1 < w.heap.size := by have := Z.sz; omega
  have s2 : 2 < w.heap.size := by have := Z.sz; omega
  have g0 := Z.g0
  have g1 := Z.g1
  have g2 := Z.g2
  have ho := fun o d => (Z.alloc o).other d
  clear Z
  go_enter Ybad.func28, Ybad.ntmps28
  go_wp2
  go_ret
  exact ⟨rfl, (Below.refl _ _).alloc (Nat.le_refl _) _⟩

set_option maxRecDepth 100000 in
theorem is4_4 (hi lo : Int) (p4 p6 : Addr) (w : World) (Z : ZZ w p4 p6) :
    Calls Ybad.prog 22 #[addr hi lo p4] w fun e w' => e = .returned (.bool true) ∧ Below w.heap.size w w' := by
  have hs := ptr_same
  have hn := ptr_nil
  have s0 : 0 < w.heap.size := by have := Z.sz; omega
  have s1 : 1 < w.heap.size := by have := Z.sz; omega
  have s2 : 2 < w.heap.size := by have := Z.sz; omega
  have g0 := Z.g0
  have g1 := Z.g1
  have g2 := Z.g2
  clear Z
  go_enter Ybad.func22, Ybad.ntmps22
  go_wp2
  go_ret
  exact ⟨rfl, (Below.refl _ _).alloc (Nat.le_refl _) _⟩

set_option maxRecDepth 100000 in
theorem hasZone4 (hi lo : Int) (p4 p6 : Addr) (w : World) (Z : ZZ w p4 p6) :
    Calls Ybad.prog 21 #[addr hi lo p4] w fun e w' => e = .returned (.bool false) ∧ Below w.heap.size w w' := by
  have hs := ptr_same
  have hn := ptr_nil
  have s0 : 0 < w.heap.size := by have := Z.sz; omega
  have s1 : 1 < w.heap.size := by have := Z.sz; omega
  have s2 : 2 < w.heap.size := by have := Z.sz; omega
  have g0 := Z.g0
  have g1 := Z.g1
  have g2 := Z.g2
  clear Z
  go_enter Ybad.func21, Ybad.ntmps21
  go_wp2
  go_ret
  exact ⟨rfl, (Below.refl _ _).alloc (Nat.le_refl _) _⟩


set_option maxRecDepth 100000 in
theorem isValid_any (hi lo : Int) (z : Addr) (n : Int) (h : 0 < n) (w : World) :
    Calls Ybad.prog 20 #[.agg #[.int .u64 hi, .int .u64 lo, .pointer (some z), .int .u8 n]] w fun e w' => e = .returned (.bool true) ∧ Below w.heap.size w w' := by
  have hd : decide (0 < n) = true := by simp [h]
  go_enter Ybad.func20, Ybad.ntmps20
  go_wp2
  go_ret
  exact ⟨rfl, (Below.refl _ _).alloc (Nat.le_refl _) _⟩

set_option maxRecDepth 100000 in
theorem bits_any (hi lo : Int) (z : Addr) (n : Int) (h0 : 0 ≤ n) (h1 : n ≤ 255) (w : World) :
    Calls Ybad.prog 23 #[.agg #[.int .u64 hi, .int .u64 lo, .pointer (some z), .int .u8 n]] w fun e w' => e = .returned (.int .i64 (n - 1)) ∧ Below w.heap.size w w' := by
  go_enter Ybad.func23, Ybad.ntmps23
  go_wp2
  go_ret
  exact ⟨rfl, (Below.refl _ _).alloc (Nat.le_refl _) _⟩
end Go.Proofs.YbulktckDoor.Net
