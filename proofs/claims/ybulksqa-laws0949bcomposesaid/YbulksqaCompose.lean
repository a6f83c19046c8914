import Derived.Test.YbulksqaPtr
namespace Go.Proofs.Ybulksqa.Chain
open Go.RowKit

theorem Ch.drewN {W w : World} {S n : Nat} (C : Ch W w S n) (m : Nat) : Ch W (w.drewN m) S n := by
  refine ⟨?_, C.row, C.env⟩
  exact C.gr

theorem at_quiet {W w : World} {S n : Nat} (C : Ch W w S n) (k : Int) (hn : n ≤ 255) (m : Nat) :
    Calls Yba.prog 14 #[.slice (some ⟨S, 0, none⟩) n n, .int .i64 k] (w.drewN m) fun e w' => e = .returned (.pointer (po S n k.toNat)) ∧ w' = w.drewN m :=
  (at_any (C.drewN m) k hn).mono fun _ _ ⟨h1, h2⟩ => ⟨h1, h2.symm⟩

set_option maxRecDepth 100000 in
set_option maxHeartbeats 2000000 in
theorem compose_pos (n a b : Nat) (hn : n ≤ 255) (hn0 : 0 < n) (hab : a + b ≤ n) (w : World) :
    Calls Yba.prog 6 #[.int .u8 (n : Int), .int .i64 (a : Int), .int .i64 (b : Int)] w fun e w' => e = .returned (.bool true) ∧ Grown w w' := by
  have h1 : ¬ (n : Int) < a := by omega
  have h2 : ¬ (n : Int) < b := by omega
  have h3 : ¬ (n : Int) < (a : Int) + b := by omega
  have h4 : (0 : Int) < (n : Int) := by omega
  have h5 : (n : Int) ≤ 255 := by omega
  have h6 : ¬ (a : Int) < 0 := by omega
  have h7 : ¬ (b : Int) < 0 := by omega
  have heq := neq_o
  go_enter Yba.func6, Yba.ntmps6
  go_wp2_with (first | (go_at_call 12; refine (chain_any n hn _).mono ?_; rintro e w1 ⟨rfl, C⟩; have c0 := C.row.cell (i := 0) hn0))
  refine (up_any C 0 (a : Int) (by omega) hn).mono ?_
  rintro e w' ⟨rfl, rfl⟩
  rw [Nat.zero_add, Int.toNat_natCast]
  go_wp2_with fail
  refine (at_any C (a : Int) hn).mono ?_
  rintro e w' ⟨rfl, rfl⟩
  rw [Int.toNat_natCast]
  go_wp2_with fail
  refine (up_any C a (b : Int) (by omega) hn).mono ?_
  rintro e w' ⟨rfl, rfl⟩
  rw [Int.toNat_natCast]
  go_wp2_with fail
  refine (up_any C 0 ((a : Int) + (b : Int)) (by omega) hn).mono ?_
  rintro e w' ⟨rfl, rfl⟩
  rw [Nat.zero_add, show ((a : Int) + (b : Int)).toNat = a + b by omega]
  go_wp2_with fail
  refine (at_any C ((a : Int) + (b : Int)) hn).mono ?_
  rintro e w' ⟨rfl, rfl⟩
  rw [show ((a : Int) + (b : Int)).toNat = a + b by omega]
  go_wp2
  go_loopw [12] (fun i wr => ∃ k : Nat, k ≤ n ∧ i = .int .i64 k ∧ Ch w wr w.heap.size n) (fun i _ => n - (intOf i).toNat)
  case atStart => exact ⟨0, Nat.zero_le _, rfl, C⟩
  case round =>
    clear C c0
    obtain ⟨k, hk, rfl, C⟩ := hrel
    by_cases hlt : k < n
    · have hlt' : (k : Int) < (n : Int) := by omega
      have ca := C.row.cell (i := k) hlt
      rw [po_lt hlt] at ca
      obtain ⟨f, hr, hf1⟩ := C.env k hlt
      have cc := hr.cell (i := 1) (by omega)
      rw [hf1] at cc
      clear hr hf1
      go_wp2
      go_quiet ((go_at_call 14; rw [show (k : Int) + 1 = ((k + 1 : Nat) : Int) by omega]; exact Calls.quiet_of_same (at_quiet C _ hn _)))
      go_wp2
      go_roundw
      case rel => exact ⟨k + 1, by omega, by go_num, C.drewN _⟩
      case measure => simp [intOf]; omega
    · have hlt' : ¬ (k : Int) < (n : Int) := by omega
      have hG := C.gr
      clear C
      go_wp2
      go_ret
      exact ⟨rfl, hG⟩

set_option maxRecDepth 100000 in
set_option maxHeartbeats 2000000 in
theorem compose_zero (w : World) :
    Calls Yba.prog 6 #[.int .u8 0, .int .i64 0, .int .i64 0] w fun e w' => e = .returned (.bool true) ∧ Grown w w' := by
  have heq := neq_o
  have e0 : ∀ S k, po S 0 k = none := fun S k => po_ge (by omega)
  go_enter Yba.func6, Yba.ntmps6
  go_wp2_with (first | (go_at_call 12; refine (chain_any 0 (by omega) _).mono ?_; rintro e w1 ⟨rfl, C⟩))
  have U := up_any C 0 0 (by omega) (by omega)
  have A := at_any C 0 (by omega)
  simp only [e0] at U A
  have HG := C.gr
  clear C e0
  refine U.mono ?_
  rintro e w' ⟨rfl, rfl⟩
  have HU : Hid (Calls Yba.prog 13 #[.pointer none, .int .i64 0] w1 fun e w' => e = .returned (.pointer none) ∧ w1 = w') := U
  have HA : Hid (Calls Yba.prog 14 #[.slice (some ⟨w.heap.size, 0, none⟩) 0 0, .int .i64 0] w1 fun e w' => e = .returned (.pointer none) ∧ w1 = w') := A
  clear U A
  go_wp2_with fail
  refine Calls.mono HA.out ?_
  rintro e w' ⟨rfl, rfl⟩
  go_wp2_with fail
  refine Calls.mono HU.out ?_
  rintro e w' ⟨rfl, rfl⟩
  go_wp2_with fail
  refine Calls.mono HU.out ?_
  rintro e w' ⟨rfl, rfl⟩
  go_wp2_with fail
  refine Calls.mono HA.out ?_
  rintro e w' ⟨rfl, rfl⟩
  go_wp2
  go_loop [12] (fun i => i = .int .i64 0) (fun _ => 0)
  case atStart => rfl
  case round =>
    subst hrel
    go_wp2
    go_ret
    exact ⟨rfl, HG⟩
end Go.Proofs.Ybulksqa.Chain
