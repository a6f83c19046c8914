import Derived.Test.YbulktckDoorC
namespace Go.Proofs.YbulktckDoor.Net
open Go.RowKit

set_option maxRecDepth 100000 in
set_option maxHeartbeats 8000000 in
theorem contains4 (v p n x : Int) (h0 : 1 ≤ n) (h1 : n ≤ 33) (HS : Hid (∀ W, (Op.shift .shr .u64 (bits .xor .u64 (lo4 v) (lo4 p)) .i64 (bits .and .i64 (IntKind.i64.wrap (32 - (n - 1))) 63)).run Ybad.prog W = .ok (.int .u64 x) W)) (hw : IntKind.u32.wrap x = x) (p4 p6 : Addr) (w : World) (Z : ZZ w p4 p6) :
    Calls Ybad.prog 15 #[pfx 0 (lo4 p) p4 n, addr 0 (lo4 v) p4] w fun e w' => e = .returned (.bool (x == 0)) ∧ Below w.heap.size w w' := by
  have C0 := CX.start w p4 p6 Z 0 (lo4 p) p4 n 0 (lo4 v) p4
  go_enter Ybad.func15, Ybad.ntmps15
  go_wp2_with fail
  refine (isValid_any 0 (lo4 p) p4 n (by omega) _).mono ?_
  rintro e w1 ⟨rfl, hb⟩
  have C1 := C0.next hb
  clear C0 hb Z
  have y0 : w1.cell? ⟨w.heap.size + 1, 0, none⟩ = some (.int .u64 0) := C1.r1.cell (i := 0) (by omega)
  have y1 : w1.cell? ⟨w.heap.size + 1, 1, none⟩ = some (.int .u64 (lo4 v)) := C1.r1.cell (i := 1) (by omega)
  have y2 : w1.cell? ⟨w.heap.size + 1, 2, none⟩ = some (.pointer (some p4)) := C1.r1.cell (i := 2) (by omega)
  go_wp2_with fail
  refine (hasZone4 0 (lo4 v) p4 p6 _ C1.z).mono ?_
  clear y0 y1 y2
  rintro e w2 ⟨rfl, hb⟩
  have C2 := (C1.next hb).drew
  clear C1 hb
  have x0w2 : w2.cell? ⟨w.heap.size, 0, none⟩ = some (.int .u64 0) := C2.r0.cell (i := 0) (by omega)
  have x1w2 : w2.cell? ⟨w.heap.size, 1, none⟩ = some (.int .u64 (lo4 p)) := C2.r0.cell (i := 1) (by omega)
  have x2w2 : w2.cell? ⟨w.heap.size, 2, none⟩ = some (.pointer (some p4)) := C2.r0.cell (i := 2) (by omega)
  have x3w2 : w2.cell? ⟨w.heap.size, 3, none⟩ = some (.int .u8 n) := C2.r0.cell (i := 3) (by omega)
  have y0w2 : w2.cell? ⟨w.heap.size + 1, 0, none⟩ = some (.int .u64 0) := C2.r1.cell (i := 0) (by omega)
  have y1w2 : w2.cell? ⟨w.heap.size + 1, 1, none⟩ = some (.int .u64 (lo4 v)) := C2.r1.cell (i := 1) (by omega)
  have y2w2 : w2.cell? ⟨w.heap.size + 1, 2, none⟩ = some (.pointer (some p4)) := C2.r1.cell (i := 2) (by omega)
  go_wp2
  go_region_with (first | (go_at_call 17; refine (bitLen4 _ _ p4 p6 _ C3.z).mono ?_; rintro e w4 ⟨rfl, hb4⟩; have C4 := C3.next hb4; have x0w4 : w4.cell? ⟨w.heap.size, 0, none⟩ = some (.int .u64 0) := C4.r0.cell (i := 0) (by omega); have x1w4 : w4.cell? ⟨w.heap.size, 1, none⟩ = some (.int .u64 (lo4 p)) := C4.r0.cell (i := 1) (by omega); have x2w4 : w4.cell? ⟨w.heap.size, 2, none⟩ = some (.pointer (some p4)) := C4.r0.cell (i := 2) (by omega); have x3w4 : w4.cell? ⟨w.heap.size, 3, none⟩ = some (.int .u8 n) := C4.r0.cell (i := 3) (by omega); have y0w4 : w4.cell? ⟨w.heap.size + 1, 0, none⟩ = some (.int .u64 0) := C4.r1.cell (i := 0) (by omega); have y1w4 : w4.cell? ⟨w.heap.size + 1, 1, none⟩ = some (.int .u64 (lo4 v)) := C4.r1.cell (i := 1) (by omega); have y2w4 : w4.cell? ⟨w.heap.size + 1, 2, none⟩ = some (.pointer (some p4)) := C4.r1.cell (i := 2) (by omega)) | (go_at_call 17; refine (bitLen4 _ _ p4 p6 _ C2.z).mono ?_; rintro e w3 ⟨rfl, hb3⟩; have C3 := C2.next hb3; have x0w3 : w3.cell? ⟨w.heap.size, 0, none⟩ = some (.int .u64 0) := C3.r0.cell (i := 0) (by omega); have x1w3 : w3.cell? ⟨w.heap.size, 1, none⟩ = some (.int .u64 (lo4 p)) := C3.r0.cell (i := 1) (by omega); have x2w3 : w3.cell? ⟨w.heap.size, 2, none⟩ = some (.pointer (some p4)) := C3.r0.cell (i := 2) (by omega); have x3w3 : w3.cell? ⟨w.heap.size, 3, none⟩ = some (.int .u8 n) := C3.r0.cell (i := 3) (by omega); have y0w3 : w3.cell? ⟨w.heap.size + 1, 0, none⟩ = some (.int .u64 0) := C3.r1.cell (i := 0) (by omega); have y1w3 : w3.cell? ⟨w.heap.size + 1, 1, none⟩ = some (.int .u64 (lo4 v)) := C3.r1.cell (i := 1) (by omega); have y2w3 : w3.cell? ⟨w.heap.size + 1, 2, none⟩ = some (.pointer (some p4)) := C3.r1.cell (i := 2) (by omega)))
  all_goals
    clear C2 C3 x0w2 x1w2 x2w2 x3w2 y0w2 y1w2 y2w2 x0w3 x1w3 x2w3 x3w3 y0w3 y1w3 y2w3
    go_wp2_with fail
    refine (is4_4 0 (lo4 v) p4 p6 _ C4.z).mono ?_
    rintro e w5 ⟨rfl, hb5⟩
    have C5 := (C4.next hb5).drew
    clear C4 hb5 x0w4 x1w4 x2w4 x3w4 y0w4 y1w4 y2w4
    have x0w5 : w5.cell? ⟨w.heap.size, 0, none⟩ = some (.int .u64 0) := C5.r0.cell (i := 0) (by omega)
    have x1w5 : w5.cell? ⟨w.heap.size, 1, none⟩ = some (.int .u64 (lo4 p)) := C5.r0.cell (i := 1) (by omega)
    have x2w5 : w5.cell? ⟨w.heap.size, 2, none⟩ = some (.pointer (some p4)) := C5.r0.cell (i := 2) (by omega)
    have x3w5 : w5.cell? ⟨w.heap.size, 3, none⟩ = some (.int .u8 n) := C5.r0.cell (i := 3) (by omega)
    have y0w5 : w5.cell? ⟨w.heap.size + 1, 0, none⟩ = some (.int .u64 0) := C5.r1.cell (i := 0) (by omega)
    have y1w5 : w5.cell? ⟨w.heap.size + 1, 1, none⟩ = some (.int .u64 (lo4 v)) := C5.r1.cell (i := 1) (by omega)
    have y2w5 : w5.cell? ⟨w.heap.size + 1, 2, none⟩ = some (.pointer (some p4)) := C5.r1.cell (i := 2) (by omega)
    go_wp2
    have hsh := HS.out
    go_region_with (go_at_call 23; refine (bits_any 0 (lo4 p) p4 n (by omega) (by omega) _).mono ?_; rintro e w6 ⟨rfl, hb6⟩; have C6 := C5.next hb6; have x0w6 : w6.cell? ⟨w.heap.size, 0, none⟩ = some (.int .u64 0) := C6.r0.cell (i := 0) (by omega); have x1w6 : w6.cell? ⟨w.heap.size, 1, none⟩ = some (.int .u64 (lo4 p)) := C6.r0.cell (i := 1) (by omega); have x2w6 : w6.cell? ⟨w.heap.size, 2, none⟩ = some (.pointer (some p4)) := C6.r0.cell (i := 2) (by omega); have x3w6 : w6.cell? ⟨w.heap.size, 3, none⟩ = some (.int .u8 n) := C6.r0.cell (i := 3) (by omega); have y0w6 : w6.cell? ⟨w.heap.size + 1, 0, none⟩ = some (.int .u64 0) := C6.r1.cell (i := 0) (by omega); have y1w6 : w6.cell? ⟨w.heap.size + 1, 1, none⟩ = some (.int .u64 (lo4 v)) := C6.r1.cell (i := 1) (by omega); have y2w6 : w6.cell? ⟨w.heap.size + 1, 2, none⟩ = some (.pointer (some p4)) := C6.r1.cell (i := 2) (by omega))
    all_goals
      have bel := C6.bel
      clear C5 C6 x0w5 x1w5 x2w5 x3w5 y0w5 y1w5 y2w5 x0w6 x1w6 x2w6 x3w6 y0w6 y1w6 y2w6
      clear hsh
      go_wp2
      go_simp
      go_ret
      exact ⟨rfl, bel⟩

end Go.Proofs.YbulktckDoor.Net
