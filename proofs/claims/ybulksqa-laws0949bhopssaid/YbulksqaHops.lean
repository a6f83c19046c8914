import Derived.Test.YbulksqaPtr
namespace Go.Proofs.Ybulksqa.Chain
open Go.RowKit

set_option maxRecDepth 100000 in
set_option maxHeartbeats 1000000 in
theorem hops_pos (n : Nat) (h : Int) (hn : n ≤ 255) (hn0 : 0 < n) (hh : h ≤ n) (w : World) :
    Calls Yba.prog 5 #[.int .u8 (n : Int), .int .i64 h] w fun e w' => e = .returned (.bool true) ∧ Grown w w' := by
  have h1 : ¬ (n : Int) < h := by omega
  have heq := eql_o
  have h2 : (0 : Int) < (n : Int) := by omega
  have h3 : (n : Int) ≤ 255 := by omega
  go_enter Yba.func5, Yba.ntmps5
  go_wp2_with (first | (go_at_call 12; refine (chain_any n hn _).mono ?_; rintro e w1 ⟨rfl, C⟩; have c0 := C.row.cell (i := 0) hn0))
  refine (up_any C 0 h (by omega) hn).mono ?_
  rintro e w' ⟨rfl, rfl⟩
  rw [Nat.zero_add]
  generalize ho : po w.heap.size n h.toNat = o
  have Ho : Hid (po w.heap.size n h.toNat = o) := ho
  clear ho
  go_wp2_with fail
  refine (at_any C h hn).mono ?_
  rintro e w' ⟨rfl, rfl⟩
  rw [Ho.out]
  have hG := C.gr
  clear C
  go_wp2
  go_ret
  exact ⟨rfl, hG⟩

set_option maxRecDepth 100000 in
set_option maxHeartbeats 1000000 in
theorem hops_zero (h : Int) (hh : h ≤ 0) (w : World) :
    Calls Yba.prog 5 #[.int .u8 0, .int .i64 h] w fun e w' => e = .returned (.bool true) ∧ Grown w w' := by
  have h1 : ¬ (0 : Int) < h := by omega
  go_enter Yba.func5, Yba.ntmps5
  go_wp2_with (first | (go_at_call 12; refine (chain_any 0 (by omega) _).mono ?_; rintro e w1 ⟨rfl, C⟩))
  have C0 := up_any C 0 h (by omega) (by omega)
  rw [po_ge (by omega), po_ge (by omega)] at C0
  refine C0.mono ?_
  clear C0
  rintro e w' ⟨rfl, rfl⟩
  go_wp2_with fail
  have C1 := at_any C h (by omega)
  rw [po_ge (by omega)] at C1
  refine C1.mono ?_
  clear C1
  rintro e w' ⟨rfl, rfl⟩
  have hG := C.gr
  clear C
  go_wp2
  go_ret
  exact ⟨rfl, hG⟩
end Go.Proofs.Ybulksqa.Chain
