import Derived.Test.YbulksqaChain
namespace Go.Proofs.Ybulksqa.Chain
open Go.RowKit

set_option maxRecDepth 100000 in
set_option maxHeartbeats 1000000 in
theorem up_any {W w : World} {S n : Nat} (C : Ch W w S n) (k : Nat) (h : Int) (hh : (k : Int) + h ≤ n) (hn : n ≤ 255) :
    Calls Yba.prog 13 #[.pointer (po S n k), .int .i64 h] w fun e w' => e = .returned (.pointer (po S n (k + h.toNat))) ∧ w = w' := by
  go_enter Yba.func13, Yba.ntmps13
  go_wp2
  go_loop [0, 6] (fun e i => ∃ j : Nat, j ≤ h.toNat ∧ i = .int .i64 j ∧ e = .pointer (po S n (k + j))) (fun _ i => h.toNat - (intOf i).toNat)
  case atStart => exact ⟨0, Nat.zero_le _, rfl, rfl⟩
  case round =>
    obtain ⟨j, hj, rfl, rfl⟩ := hrel
    by_cases hlt : j < h.toNat
    · have hlt' : (j : Int) < h := by omega
      have hkj : k + j < n := by omega
      obtain ⟨f, hr, h1⟩ := C.env (k + j) hkj
      have cc := hr.cell (i := 1) (by omega)
      rw [h1] at cc
      have hp := po_lt (S := S) hkj
      rw [hp]
      have Hh : Hid (k + j < n) := hkj
      clear hp hr h1 hkj hj
      generalize ho : po S n (k + j + 1) = o at cc
      have Ho : Hid (po S n (k + j + 1) = o) := ho
      clear ho
      go_wp2
      go_round
      case rel => exact ⟨j + 1, by omega, by go_num, by rw [← Nat.add_assoc, Ho.out]⟩
      case measure => simp [intOf]; omega
    · have hlt' : ¬ (j : Int) < h := by omega
      obtain rfl : j = h.toNat := by omega
      go_wp2
      go_ret
      exact ⟨rfl, rfl⟩

set_option maxRecDepth 100000 in
set_option maxHeartbeats 1000000 in
theorem at_any {W w : World} {S n : Nat} (C : Ch W w S n) (k : Int) (hn : n ≤ 255) :
    Calls Yba.prog 14 #[.slice (some ⟨S, 0, none⟩) n n, .int .i64 k] w fun e w' => e = .returned (.pointer (po S n k.toNat)) ∧ w = w' := by
  by_cases h0 : k < 0
  · rw [show k.toNat = 0 by omega]
    by_cases hz : n = 0
    · subst hz
      rw [po_ge (by omega)]
      go_enter Yba.func14, Yba.ntmps14
      go_wp2
      go_ret
      exact ⟨rfl, rfl⟩
    · have hz' : (0 : Int) < (n : Int) := by omega
      have cc := C.row.cell (i := 0) (by omega)
      rw [po_lt (by omega)] at cc ⊢
      go_enter Yba.func14, Yba.ntmps14
      go_wp2
      go_ret
      exact ⟨rfl, rfl⟩
  · obtain ⟨j, rfl⟩ := Int.eq_ofNat_of_zero_le (by omega : 0 ≤ k)
    rw [Int.toNat_natCast]
    by_cases hj : j < n
    · have hj' : (j : Int) < (n : Int) := by omega
      have cc := C.row.cell (i := j) hj
      rw [po_lt hj] at cc ⊢
      go_enter Yba.func14, Yba.ntmps14
      go_wp2
      go_ret
      exact ⟨rfl, rfl⟩
    · have hj' : ¬ (j : Int) < (n : Int) := by omega
      rw [po_ge hj]
      go_enter Yba.func14, Yba.ntmps14
      go_wp2
      go_ret
      exact ⟨rfl, rfl⟩
end Go.Proofs.Ybulksqa.Chain
