import Derived.Test.YbulktckDoorB
namespace Go.Proofs.YbulktckDoor.Net
open Go.RowKit

/-- The two boxes of Contains' parameters in a later world. -/
structure CX (w w' : World) (p4 p6 : Addr) (f g : Nat → Value) : Prop where
  z : ZZ w' p4 p6
  bel : Below w.heap.size w w'
  r0 : w'.rowIs w.heap.size 40 4 f
  r1 : w'.rowIs (w.heap.size + 1) 33 3 g

theorem CX.next {w X w' : World} {p4 p6 : Addr} {f g : Nat → Value} (h : CX w X p4 p6 f g) (hb : Below X.heap.size X w') : CX w w' p4 p6 f g :=
  ⟨h.z.later hb (Nat.le_refl _), h.bel.trans (hb.mono h.bel.size), h.r0.of_block (hb.block _ h.r0.lt), h.r1.of_block (hb.block _ h.r1.lt)⟩
theorem CX.drew {w X : World} {p4 p6 : Addr} {f g : Nat → Value} (h : CX w X p4 p6 f g) : CX w X.drew p4 p6 f g :=
  ⟨⟨h.z.g0, h.z.g1, h.z.g2, h.z.ne, h.z.b4, h.z.b6, h.z.sz⟩, h.bel.drew, h.r0, h.r1⟩

theorem CX.start (w : World) (p4 p6 : Addr) (Z : ZZ w p4 p6) (hi lo : Int) (z : Addr) (n hi' lo' : Int) (z' : Addr) :
    CX w ((w.alloc (.cells #[.int .u64 hi, .int .u64 lo, .pointer (some z), .int .u8 n] 40)).alloc (.cells #[.int .u64 hi', .int .u64 lo', .pointer (some z')] 33)) p4 p6
      (fun i => (#[.int .u64 hi, .int .u64 lo, .pointer (some z), .int .u8 n][i]?).getD .nilIface) (fun i => (#[.int .u64 hi', .int .u64 lo', .pointer (some z')][i]?).getD .nilIface) := by
  refine ⟨(Z.alloc _).alloc _, bel2 _ _ _, ?_, ?_⟩
  · exact (World.rowIs_alloc w #[.int .u64 hi, .int .u64 lo, .pointer (some z), .int .u8 n] 40 _ (fun i hi => by rw [Array.getElem?_eq_getElem hi]; rfl)).alloc _
  · have R := World.rowIs_alloc (w.alloc (.cells #[.int .u64 hi, .int .u64 lo, .pointer (some z), .int .u8 n] 40)) #[.int .u64 hi', .int .u64 lo', .pointer (some z')] 33 (fun i => (#[.int .u64 hi', .int .u64 lo', .pointer (some z')][i]?).getD .nilIface) (fun i hi => by rw [Array.getElem?_eq_getElem hi]; rfl)
    rw [World.size_alloc] at R
    exact R

set_option maxRecDepth 100000 in
set_option maxHeartbeats 4000000 in
theorem contains6 (v p n : Int) (h0 : 1 ≤ n) (p4 p6 : Addr) (w : World) (Z : ZZ w p4 p6) :
    Calls Ybad.prog 15 #[pfx 0 (lo4 p) p6 n, addr 0 (lo4 v) p4] w fun e w' => e = .returned (.bool false) ∧ Below w.heap.size w w' := by
  have C0 := CX.start w p4 p6 Z 0 (lo4 p) p6 n 0 (lo4 v) p4
  go_enter Ybad.func15, Ybad.ntmps15
  go_wp2_with fail
  refine (isValid_any 0 (lo4 p) p6 n (by omega) _).mono ?_
  rintro e w1 ⟨rfl, hb⟩
  have C1 := C0.next hb
  clear C0 hb Z
  have y0 : w1.cell? ⟨w.heap.size + 1, 0, none⟩ = some (.int .u64 0) := C1.r1.cell (i := 0) (by omega)
  have y1 : w1.cell? ⟨w.heap.size + 1, 1, none⟩ = some (.int .u64 (lo4 v)) := C1.r1.cell (i := 1) (by omega)
  have y2 : w1.cell? ⟨w.heap.size + 1, 2, none⟩ = some (.pointer (some p4)) := C1.r1.cell (i := 2) (by omega)
  go_wp2_with fail
  refine (hasZone4 0 (lo4 v) p4 p6 _ C1.z).mono ?_
  clear y0 y1 y2
  rintro e w2 ⟨rfl, hb⟩
  have C2 := (C1.next hb).drew
  clear C1 hb
  have x0w2 : w2.cell? ⟨w.heap.size, 0, none⟩ = some (.int .u64 0) := C2.r0.cell (i := 0) (by omega)
  have x1w2 : w2.cell? ⟨w.heap.size, 1, none⟩ = some (.int .u64 (lo4 p)) := C2.r0.cell (i := 1) (by omega)
  have x2w2 : w2.cell? ⟨w.heap.size, 2, none⟩ = some (.pointer (some p6)) := C2.r0.cell (i := 2) (by omega)
  have x3w2 : w2.cell? ⟨w.heap.size, 3, none⟩ = some (.int .u8 n) := C2.r0.cell (i := 3) (by omega)
  have y0w2 : w2.cell? ⟨w.heap.size + 1, 0, none⟩ = some (.int .u64 0) := C2.r1.cell (i := 0) (by omega)
  have y1w2 : w2.cell? ⟨w.heap.size + 1, 1, none⟩ = some (.int .u64 (lo4 v)) := C2.r1.cell (i := 1) (by omega)
  have y2w2 : w2.cell? ⟨w.heap.size + 1, 2, none⟩ = some (.pointer (some p4)) := C2.r1.cell (i := 2) (by omega)
  go_wp2
  go_region_with (first | (go_at_call_of 17 (Value.pointer (some p6)); refine (bitLen6 _ _ p4 p6 _ C3.z).mono ?_; rintro e w4 ⟨rfl, hb4⟩; have C4 := C3.next hb4; have x0w4 : w4.cell? ⟨w.heap.size, 0, none⟩ = some (.int .u64 0) := C4.r0.cell (i := 0) (by omega); have x1w4 : w4.cell? ⟨w.heap.size, 1, none⟩ = some (.int .u64 (lo4 p)) := C4.r0.cell (i := 1) (by omega); have x2w4 : w4.cell? ⟨w.heap.size, 2, none⟩ = some (.pointer (some p6)) := C4.r0.cell (i := 2) (by omega); have x3w4 : w4.cell? ⟨w.heap.size, 3, none⟩ = some (.int .u8 n) := C4.r0.cell (i := 3) (by omega); have y0w4 : w4.cell? ⟨w.heap.size + 1, 0, none⟩ = some (.int .u64 0) := C4.r1.cell (i := 0) (by omega); have y1w4 : w4.cell? ⟨w.heap.size + 1, 1, none⟩ = some (.int .u64 (lo4 v)) := C4.r1.cell (i := 1) (by omega); have y2w4 : w4.cell? ⟨w.heap.size + 1, 2, none⟩ = some (.pointer (some p4)) := C4.r1.cell (i := 2) (by omega)) | (go_at_call_of 17 (Value.pointer (some p4)); refine (bitLen4 _ _ p4 p6 _ C3.z).mono ?_; rintro e w4 ⟨rfl, hb4⟩; have C4 := C3.next hb4; have x0w4 : w4.cell? ⟨w.heap.size, 0, none⟩ = some (.int .u64 0) := C4.r0.cell (i := 0) (by omega); have x1w4 : w4.cell? ⟨w.heap.size, 1, none⟩ = some (.int .u64 (lo4 p)) := C4.r0.cell (i := 1) (by omega); have x2w4 : w4.cell? ⟨w.heap.size, 2, none⟩ = some (.pointer (some p6)) := C4.r0.cell (i := 2) (by omega); have x3w4 : w4.cell? ⟨w.heap.size, 3, none⟩ = some (.int .u8 n) := C4.r0.cell (i := 3) (by omega); have y0w4 : w4.cell? ⟨w.heap.size + 1, 0, none⟩ = some (.int .u64 0) := C4.r1.cell (i := 0) (by omega); have y1w4 : w4.cell? ⟨w.heap.size + 1, 1, none⟩ = some (.int .u64 (lo4 v)) := C4.r1.cell (i := 1) (by omega); have y2w4 : w4.cell? ⟨w.heap.size + 1, 2, none⟩ = some (.pointer (some p4)) := C4.r1.cell (i := 2) (by omega)) | (go_at_call_of 17 (Value.pointer (some p6)); refine (bitLen6 _ _ p4 p6 _ C2.z).mono ?_; rintro e w3 ⟨rfl, hb3⟩; have C3 := C2.next hb3; have x0w3 : w3.cell? ⟨w.heap.size, 0, none⟩ = some (.int .u64 0) := C3.r0.cell (i := 0) (by omega); have x1w3 : w3.cell? ⟨w.heap.size, 1, none⟩ = some (.int .u64 (lo4 p)) := C3.r0.cell (i := 1) (by omega); have x2w3 : w3.cell? ⟨w.heap.size, 2, none⟩ = some (.pointer (some p6)) := C3.r0.cell (i := 2) (by omega); have x3w3 : w3.cell? ⟨w.heap.size, 3, none⟩ = some (.int .u8 n) := C3.r0.cell (i := 3) (by omega); have y0w3 : w3.cell? ⟨w.heap.size + 1, 0, none⟩ = some (.int .u64 0) := C3.r1.cell (i := 0) (by omega); have y1w3 : w3.cell? ⟨w.heap.size + 1, 1, none⟩ = some (.int .u64 (lo4 v)) := C3.r1.cell (i := 1) (by omega); have y2w3 : w3.cell? ⟨w.heap.size + 1, 2, none⟩ = some (.pointer (some p4)) := C3.r1.cell (i := 2) (by omega)) | (go_at_call_of 17 (Value.pointer (some p4)); refine (bitLen4 _ _ p4 p6 _ C2.z).mono ?_; rintro e w3 ⟨rfl, hb3⟩; have C3 := C2.next hb3; have x0w3 : w3.cell? ⟨w.heap.size, 0, none⟩ = some (.int .u64 0) := C3.r0.cell (i := 0) (by omega); have x1w3 : w3.cell? ⟨w.heap.size, 1, none⟩ = some (.int .u64 (lo4 p)) := C3.r0.cell (i := 1) (by omega); have x2w3 : w3.cell? ⟨w.heap.size, 2, none⟩ = some (.pointer (some p6)) := C3.r0.cell (i := 2) (by omega); have x3w3 : w3.cell? ⟨w.heap.size, 3, none⟩ = some (.int .u8 n) := C3.r0.cell (i := 3) (by omega); have y0w3 : w3.cell? ⟨w.heap.size + 1, 0, none⟩ = some (.int .u64 0) := C3.r1.cell (i := 0) (by omega); have y1w3 : w3.cell? ⟨w.heap.size + 1, 1, none⟩ = some (.int .u64 (lo4 v)) := C3.r1.cell (i := 1) (by omega); have y2w3 : w3.cell? ⟨w.heap.size + 1, 2, none⟩ = some (.pointer (some p4)) := C3.r1.cell (i := 2) (by omega)))
  all_goals
    clear C2 C3 x0w2 x1w2 x2w2 x3w2 y0w2 y1w2 y2w2 x0w3 x1w3 x2w3 x3w3 y0w3 y1w3 y2w3
    have bel := C4.bel
    clear C4
    go_wp2
    go_ret
    exact ⟨rfl, bel⟩

end Go.Proofs.YbulktckDoor.Net
