import Derived.Test.YbulktckDoorW
import Derived.RegionCalls
import Derived.Deep.RegionWith
namespace Go.Proofs.YbulktckDoor.Net
open Go.RowKit

/-- The j-th of a word's eight bytes, the highest first. -/
def byteAt (v : Int) : Nat → Int
  | 0 => v / 72057594037927936
  | 1 => v / 281474976710656 % 256
  | 2 => v / 1099511627776 % 256
  | 3 => v / 4294967296 % 256
  | 4 => v / 16777216 % 256
  | 5 => v / 65536 % 256
  | 6 => v / 256 % 256
  | _ => v % 256

set_option maxRecDepth 100000 in
theorem put_any (b o c : Nat) (v : Int) (h0 : 0 ≤ v) (h1 : v < 18446744073709551616) (x : Nat → Value) (w : World) (hx : ∀ i, i < 8 → w.cell? ⟨b, o + i, none⟩ = some (x i)) (hf : ∀ i, w.frozen? ⟨b, i, none⟩ = false) :
    Calls Ybad.prog 13 #[.slice (some ⟨b, o, none⟩) 8 c, .int .u64 v] w fun e w' => e = .returned (.tuple #[]) ∧
      w' = (((((((w.setCell ⟨b, o, none⟩ (.int .u8 (v / 72057594037927936))).setCell ⟨b, o + 1, none⟩ (.int .u8 (v / 281474976710656 % 256))).setCell ⟨b, o + 2, none⟩ (.int .u8 (v / 1099511627776 % 256))).setCell ⟨b, o + 3, none⟩ (.int .u8 (v / 4294967296 % 256))).setCell ⟨b, o + 4, none⟩ (.int .u8 (v / 16777216 % 256))).setCell ⟨b, o + 5, none⟩ (.int .u8 (v / 65536 % 256))).setCell ⟨b, o + 6, none⟩ (.int .u8 (v / 256 % 256))).setCell ⟨b, o + 7, none⟩ (.int .u8 (v % 256)) := by
  have x0 := hx 0 (by omega)
  have x1 := hx 1 (by omega)
  have x2 := hx 2 (by omega)
  have x3 := hx 3 (by omega)
  have x4 := hx 4 (by omega)
  have x5 := hx 5 (by omega)
  have x6 := hx 6 (by omega)
  have x7 := hx 7 (by omega)
  rw [Nat.add_zero] at x0
  clear hx
  go_enter Ybad.func13, Ybad.ntmps13
  go_wp2
  go_end0
  exact ⟨rfl, rfl⟩

theorem put_row {Bd : Nat} {W w : World} {R t n c : Nat} {f : Nat → Value} (o : Nat) (v : Int) (h0 : 0 ≤ v) (h1 : v < 18446744073709551616) (hr : w.rowIs R t n f) (hn : o + 8 ≤ n) (hb : Below Bd W w) (hR : Bd ≤ R) :
    Calls Ybad.prog 13 #[.slice (some ⟨R, o, none⟩) 8 c, .int .u64 v] w fun e w' => e = .returned (.tuple #[]) ∧ w'.rowIs R t n (fun j => if o ≤ j ∧ j < o + 8 then .int .u8 (byteAt v (j - o)) else f j) ∧ Below Bd W w' ∧ w'.heap.size = w.heap.size ∧ (∀ k, k ≠ R → w'.heap[k]? = w.heap[k]?) := by
  refine (put_any R o c v h0 h1 (fun i => f (o + i)) w (fun i hi => hr.cell (by omega)) hr.frozen).mono ?_
  rintro e w' ⟨rfl, rfl⟩
  refine ⟨rfl, ?_, ?_, ?_, ?_⟩
  · have R1 := (((((((hr.set o (.int .u8 (v / 72057594037927936))).set (o + 1) (.int .u8 (v / 281474976710656 % 256))).set (o + 2) (.int .u8 (v / 1099511627776 % 256))).set (o + 3) (.int .u8 (v / 4294967296 % 256))).set (o + 4) (.int .u8 (v / 16777216 % 256))).set (o + 5) (.int .u8 (v / 65536 % 256))).set (o + 6) (.int .u8 (v / 256 % 256))).set (o + 7) (.int .u8 (v % 256))
    refine R1.congr fun j _ => ?_
    by_cases hj : o ≤ j ∧ j < o + 8
    · rw [if_pos hj]
      obtain ⟨i, rfl⟩ : ∃ i, j = o + i := ⟨j - o, by omega⟩
      have hi : i < 8 := by omega
      rw [Nat.add_sub_cancel_left]
      match i, hi with
      | 0, _ => simp [byteAt]
      | 1, _ => simp [byteAt]
      | 2, _ => simp [byteAt]
      | 3, _ => simp [byteAt]
      | 4, _ => simp [byteAt]
      | 5, _ => simp [byteAt]
      | 6, _ => simp [byteAt]
      | 7, _ => simp [byteAt]
    · rw [if_neg hj]
      repeat rw [if_neg (by omega)]
  · exact (((((((hb.setCell (p := ⟨R, o, none⟩) hR _).setCell (p := ⟨R, o + 1, none⟩) hR _).setCell (p := ⟨R, o + 2, none⟩) hR _).setCell (p := ⟨R, o + 3, none⟩) hR _).setCell (p := ⟨R, o + 4, none⟩) hR _).setCell (p := ⟨R, o + 5, none⟩) hR _).setCell (p := ⟨R, o + 6, none⟩) hR _).setCell (p := ⟨R, o + 7, none⟩) hR _
  · simp [World.setCell]
  · intro k hk
    rw [Below.heap_setCell _ _ _ _ hk, Below.heap_setCell _ _ _ _ hk, Below.heap_setCell _ _ _ _ hk, Below.heap_setCell _ _ _ _ hk, Below.heap_setCell _ _ _ _ hk, Below.heap_setCell _ _ _ _ hk, Below.heap_setCell _ _ _ _ hk, Below.heap_setCell _ _ _ _ hk]

set_option maxRecDepth 100000 in
set_option maxHeartbeats 1000000 in
theorem as16_any (lo : Int) (z : Addr) (h0 : 0 ≤ lo) (h1 : lo < 18446744073709551616) (w : World) :
    Calls Ybad.prog 7 #[addr 0 lo z] w fun e w' => e = .returned (.agg #[.int .u8 0, .int .u8 0, .int .u8 0, .int .u8 0, .int .u8 0, .int .u8 0, .int .u8 0, .int .u8 0, .int .u8 (byteAt lo 0), .int .u8 (byteAt lo 1), .int .u8 (byteAt lo 2), .int .u8 (byteAt lo 3), .int .u8 (byteAt lo 4), .int .u8 (byteAt lo 5), .int .u8 (byteAt lo 6), .int .u8 (byteAt lo 7)]) ∧ Below w.heap.size w w' := by
  have rA := World.rowIs_alloc w #[.int .u64 0, .int .u64 lo, .pointer (some z)] 33 (fun i => (#[.int .u64 0, .int .u64 lo, .pointer (some z)][i]?).getD .nilIface) (fun i hi => by rw [Array.getElem?_eq_getElem hi]; rfl)
  have rB := World.rowIs_alloc (w.alloc (.cells #[.int .u64 0, .int .u64 lo, .pointer (some z)] 33)) (Array.replicate 16 (.int .u8 0)) 37 (fun _ => .int .u8 0) (fun i hi => by rw [Array.getElem?_replicate]; simp at hi; rw [if_pos hi])
  rw [World.size_alloc, Array.size_replicate] at rB
  have rA' := rA.alloc (.cells (Array.replicate 16 (.int .u8 0)) 37)
  have hB : Below w.heap.size w ((w.alloc (.cells #[.int .u64 0, .int .u64 lo, .pointer (some z)] 33)).alloc (.cells (Array.replicate 16 (.int .u8 0)) 37)) := ((Below.refl _ _).alloc (Nat.le_refl _) _).alloc (by rw [World.size_alloc]; omega) _
  clear rA
  go_enter Ybad.func7, Ybad.ntmps7
  go_wp2
  go_region_with (go_at_call 13; refine (put_row (W := w) (Bd := w.heap.size) 0 0 (by omega) (by omega) rB.drew (by omega) hB.drew (by omega)).mono ?_; rintro e w1 ⟨rfl, r1, b1, s1, k1⟩)
  have q1 := (rA'.drew.of_block (k1 _ (by omega))).cell (i := 1) (by show 1 < 3; omega)
  have z1 := (rA'.drew.of_block (k1 _ (by omega))).lt
  clear rA' rB hB
  go_wp2
  go_region_with (go_at_call 13; refine (put_row (W := w) (Bd := w.heap.size) 8 lo h0 h1 r1.drew (by omega) b1.drew (by omega)).mono ?_; rintro e w2 ⟨rfl, r2, b2, s2, k2⟩)
  have f2 := r2.frozen
  have l2 := r2.lt
  have u0 : w2.cell? ⟨w.heap.size + 1, 0, none⟩ = some (.int .u8 0) := r2.cell (i := 0) (by omega)
  have u1 : w2.cell? ⟨w.heap.size + 1, 1, none⟩ = some (.int .u8 0) := r2.cell (i := 1) (by omega)
  have u2 : w2.cell? ⟨w.heap.size + 1, 2, none⟩ = some (.int .u8 0) := r2.cell (i := 2) (by omega)
  have u3 : w2.cell? ⟨w.heap.size + 1, 3, none⟩ = some (.int .u8 0) := r2.cell (i := 3) (by omega)
  have u4 : w2.cell? ⟨w.heap.size + 1, 4, none⟩ = some (.int .u8 0) := r2.cell (i := 4) (by omega)
  have u5 : w2.cell? ⟨w.heap.size + 1, 5, none⟩ = some (.int .u8 0) := r2.cell (i := 5) (by omega)
  have u6 : w2.cell? ⟨w.heap.size + 1, 6, none⟩ = some (.int .u8 0) := r2.cell (i := 6) (by omega)
  have u7 : w2.cell? ⟨w.heap.size + 1, 7, none⟩ = some (.int .u8 0) := r2.cell (i := 7) (by omega)
  have u8 : w2.cell? ⟨w.heap.size + 1, 8, none⟩ = some (.int .u8 (byteAt lo 0)) := r2.cell (i := 8) (by omega)
  have u9 : w2.cell? ⟨w.heap.size + 1, 9, none⟩ = some (.int .u8 (byteAt lo 1)) := r2.cell (i := 9) (by omega)
  have u10 : w2.cell? ⟨w.heap.size + 1, 10, none⟩ = some (.int .u8 (byteAt lo 2)) := r2.cell (i := 10) (by omega)
  have u11 : w2.cell? ⟨w.heap.size + 1, 11, none⟩ = some (.int .u8 (byteAt lo 3)) := r2.cell (i := 11) (by omega)
  have u12 : w2.cell? ⟨w.heap.size + 1, 12, none⟩ = some (.int .u8 (byteAt lo 4)) := r2.cell (i := 12) (by omega)
  have u13 : w2.cell? ⟨w.heap.size + 1, 13, none⟩ = some (.int .u8 (byteAt lo 5)) := r2.cell (i := 13) (by omega)
  have u14 : w2.cell? ⟨w.heap.size + 1, 14, none⟩ = some (.int .u8 (byteAt lo 6)) := r2.cell (i := 14) (by omega)
  have u15 : w2.cell? ⟨w.heap.size + 1, 15, none⟩ = some (.int .u8 (byteAt lo 7)) := r2.cell (i := 15) (by omega)
  clear r1 r2 k1 k2 b1 s1 s2 q1 z1
  go_wp2
  refine bodyPost_ret (v := .agg #[.int .u8 0, .int .u8 0, .int .u8 0, .int .u8 0, .int .u8 0, .int .u8 0, .int .u8 0, .int .u8 0, .int .u8 (byteAt lo 0), .int .u8 (byteAt lo 1), .int .u8 (byteAt lo 2), .int .u8 (byteAt lo 3), .int .u8 (byteAt lo 4), .int .u8 (byteAt lo 5), .int .u8 (byteAt lo 6), .int .u8 (byteAt lo 7)]) ?_ rfl ⟨rfl, ?_⟩
  · simp only [results, Ybad.results7]
    go_simp
  · repeat (refine Below.setCell ?_ (Nat.le_succ _) _)
    exact b2
end Go.Proofs.YbulktckDoor.Net
