import Derived.Test.YbulktckDoorP
namespace Go.Proofs.YbulktckDoor.Net
open Go.RowKit

def join8 (b0 b1 b2 b3 b4 b5 b6 b7 : Int) : Int := b7 + b6 * 256 + b5 * 65536 + b4 * 16777216 + b3 * 4294967296 + b2 * 1099511627776 + b1 * 281474976710656 + b0 * 72057594037927936

theorem or64c (x y : Int) (i : Nat) (hx0 : 0 ≤ x) (hx : x < 2 ^ i) (hx1 : x < 2 ^ 64) (hy0 : 0 ≤ y) (hy : y % 2 ^ i = 0) (hy1 : y < 2 ^ 64) : bits .or .u64 x y = x + y := by
  have h1 := u64_or x y hx0 (by omega) hy0 (by omega)
  have h2 := u64_or y x hy0 (by omega) hx0 (by omega)
  rw [h1, Nat.or_comm, ← h2, or64 y x i hy0 hy hy1 hx0 hx hx1, Int.add_comm]

theorem join_or (b0 b1 b2 b3 b4 b5 b6 b7 : Int) (h0 : 0 ≤ b0) (g0 : b0 ≤ 255) (h1 : 0 ≤ b1) (g1 : b1 ≤ 255) (h2 : 0 ≤ b2) (g2 : b2 ≤ 255) (h3 : 0 ≤ b3) (g3 : b3 ≤ 255) (h4 : 0 ≤ b4) (g4 : b4 ≤ 255) (h5 : 0 ≤ b5) (g5 : b5 ≤ 255) (h6 : 0 ≤ b6) (g6 : b6 ≤ 255) (h7 : 0 ≤ b7) (g7 : b7 ≤ 255) :
    bits .or .u64 (bits .or .u64 (bits .or .u64 (bits .or .u64 (bits .or .u64 (bits .or .u64 (bits .or .u64 b7 (b6 * 256)) (b5 * 65536)) (b4 * 16777216)) (b3 * 4294967296)) (b2 * 1099511627776)) (b1 * 281474976710656)) (b0 * 72057594037927936) = join8 b0 b1 b2 b3 b4 b5 b6 b7 := by
  rw [or64c b7 (b6 * 256) 8 (by omega) (by omega) (by omega) (by omega) (by omega) (by omega), or64c _ (b5 * 65536) 16 (by omega) (by omega) (by omega) (by omega) (by omega) (by omega), or64c _ (b4 * 16777216) 24 (by omega) (by omega) (by omega) (by omega) (by omega) (by omega),
    or64c _ (b3 * 4294967296) 32 (by omega) (by omega) (by omega) (by omega) (by omega) (by omega), or64c _ (b2 * 1099511627776) 40 (by omega) (by omega) (by omega) (by omega) (by omega) (by omega), or64c _ (b1 * 281474976710656) 48 (by omega) (by omega) (by omega) (by omega) (by omega) (by omega),
    or64c _ (b0 * 72057594037927936) 56 (by omega) (by omega) (by omega) (by omega) (by omega) (by omega)]
  rfl

theorem join_bytes (lo : Int) : join8 (byteAt lo 0) (byteAt lo 1) (byteAt lo 2) (byteAt lo 3) (byteAt lo 4) (byteAt lo 5) (byteAt lo 6) (byteAt lo 7) = lo := by
  simp only [join8, byteAt]
  omega

theorem byte_bd (lo : Int) (h0 : 0 ≤ lo) (h1 : lo < 18446744073709551616) (j : Nat) : 0 ≤ byteAt lo j ∧ byteAt lo j ≤ 255 := by
  unfold byteAt
  split <;> omega

set_option maxRecDepth 100000 in
set_option maxHeartbeats 1000000 in
theorem be64_any (b o c : Nat) (b0 b1 b2 b3 b4 b5 b6 b7 : Int) (h0 : 0 ≤ b0) (g0 : b0 ≤ 255) (h1 : 0 ≤ b1) (g1 : b1 ≤ 255) (h2 : 0 ≤ b2) (g2 : b2 ≤ 255) (h3 : 0 ≤ b3) (g3 : b3 ≤ 255) (h4 : 0 ≤ b4) (g4 : b4 ≤ 255) (h5 : 0 ≤ b5) (g5 : b5 ≤ 255) (h6 : 0 ≤ b6) (g6 : b6 ≤ 255) (h7 : 0 ≤ b7) (g7 : b7 ≤ 255) (w : World)
    (x0 : w.cell? ⟨b, o, none⟩ = some (.int .u8 b0)) (x1 : w.cell? ⟨b, o + 1, none⟩ = some (.int .u8 b1)) (x2 : w.cell? ⟨b, o + 2, none⟩ = some (.int .u8 b2)) (x3 : w.cell? ⟨b, o + 3, none⟩ = some (.int .u8 b3))
    (x4 : w.cell? ⟨b, o + 4, none⟩ = some (.int .u8 b4)) (x5 : w.cell? ⟨b, o + 5, none⟩ = some (.int .u8 b5)) (x6 : w.cell? ⟨b, o + 6, none⟩ = some (.int .u8 b6)) (x7 : w.cell? ⟨b, o + 7, none⟩ = some (.int .u8 b7)) :
    Calls Ybad.prog 12 #[.slice (some ⟨b, o, none⟩) 8 c] w fun e w' => e = .returned (.int .u64 (join8 b0 b1 b2 b3 b4 b5 b6 b7)) ∧ ∃ n, w' = w.drewN n := by
  rw [← join_or b0 b1 b2 b3 b4 b5 b6 b7 h0 g0 h1 g1 h2 g2 h3 g3 h4 g4 h5 g5 h6 g6 h7 g7]
  go_enter Ybad.func12, Ybad.ntmps12
  go_wp2
  go_quiet (fail)
  go_wp2
  go_ret
  exact ⟨rfl, _, rfl⟩

theorem below_drewN {B : Nat} {a w : World} (h : Below B a w) (n : Nat) : Below B a (w.drewN n) := ⟨h.os, h.tape, h.output, h.size, h.block⟩

/-- The sixteen bytes of an IPv4-mapped address, and its two words. -/
def by16 (lo : Int) (i : Nat) : Int := if i < 8 then 0 else byteAt lo (i - 8)
def half (lo : Int) (o : Nat) : Int := if o = 0 then 0 else lo

theorem by16_bd (lo : Int) (h0 : 0 ≤ lo) (h1 : lo < 18446744073709551616) (i : Nat) : 0 ≤ by16 lo i ∧ by16 lo i ≤ 255 := by
  unfold by16
  split
  · omega
  · exact byte_bd lo h0 h1 _

theorem be64_row {w : World} {b t o c : Nat} {lo : Int} (h0 : 0 ≤ lo) (h1 : lo < 18446744073709551616) (hr : w.rowIs b t 16 (fun i => .int .u8 (by16 lo i))) (ho : o = 0 ∨ o = 8) :
    Calls Ybad.prog 12 #[.slice (some ⟨b, o, none⟩) 8 c] w fun e w' => e = .returned (.int .u64 (half lo o)) ∧ ∃ n, w' = w.drewN n := by
  have K := be64_any b o c (by16 lo o) (by16 lo (o + 1)) (by16 lo (o + 2)) (by16 lo (o + 3)) (by16 lo (o + 4)) (by16 lo (o + 5)) (by16 lo (o + 6)) (by16 lo (o + 7)) (by16_bd lo h0 h1 _).1 (by16_bd lo h0 h1 _).2 (by16_bd lo h0 h1 _).1 (by16_bd lo h0 h1 _).2 (by16_bd lo h0 h1 _).1 (by16_bd lo h0 h1 _).2 (by16_bd lo h0 h1 _).1 (by16_bd lo h0 h1 _).2 (by16_bd lo h0 h1 _).1 (by16_bd lo h0 h1 _).2 (by16_bd lo h0 h1 _).1 (by16_bd lo h0 h1 _).2 (by16_bd lo h0 h1 _).1 (by16_bd lo h0 h1 _).2 (by16_bd lo h0 h1 _).1 (by16_bd lo h0 h1 _).2 w
    (hr.cell (by omega)) (hr.cell (by omega)) (hr.cell (by omega)) (hr.cell (by omega)) (hr.cell (by omega)) (hr.cell (by omega)) (hr.cell (by omega)) (hr.cell (by omega))
  have e : join8 (by16 lo o) (by16 lo (o + 1)) (by16 lo (o + 2)) (by16 lo (o + 3)) (by16 lo (o + 4)) (by16 lo (o + 5)) (by16 lo (o + 6)) (by16 lo (o + 7)) = half lo o := by
    rcases ho with rfl | rfl
    · rfl
    · exact join_bytes lo
  rw [e] at K
  exact K

set_option maxRecDepth 100000 in
set_option maxHeartbeats 1000000 in
theorem from16_any (lo : Int) (h0 : 0 ≤ lo) (h1 : lo < 18446744073709551616) (p4 p6 : Addr) (w : World) (Z : ZZ w p4 p6) :
    Calls Ybad.prog 6 #[.agg #[.int .u8 0, .int .u8 0, .int .u8 0, .int .u8 0, .int .u8 0, .int .u8 0, .int .u8 0, .int .u8 0, .int .u8 (byteAt lo 0), .int .u8 (byteAt lo 1), .int .u8 (byteAt lo 2), .int .u8 (byteAt lo 3), .int .u8 (byteAt lo 4), .int .u8 (byteAt lo 5), .int .u8 (byteAt lo 6), .int .u8 (byteAt lo 7)]] w
      fun e w' => e = .returned (addr 0 lo p6) ∧ Below w.heap.size w w' := by
  have s0 : 1 < w.heap.size := by have := Z.sz; omega
  have g1 := Z.g1
  clear Z
  have R := World.rowIs_alloc w #[.int .u8 0, .int .u8 0, .int .u8 0, .int .u8 0, .int .u8 0, .int .u8 0, .int .u8 0, .int .u8 0, .int .u8 (byteAt lo 0), .int .u8 (byteAt lo 1), .int .u8 (byteAt lo 2), .int .u8 (byteAt lo 3), .int .u8 (byteAt lo 4), .int .u8 (byteAt lo 5), .int .u8 (byteAt lo 6), .int .u8 (byteAt lo 7)] 37 (fun i => .int .u8 (by16 lo i)) (fun i hi => by
    have hi' : i < 16 := hi
    clear hi
    match i, hi' with
    | 0, _ => rfl
    | 1, _ => rfl
    | 2, _ => rfl
    | 3, _ => rfl
    | 4, _ => rfl
    | 5, _ => rfl
    | 6, _ => rfl
    | 7, _ => rfl
    | 8, _ => rfl
    | 9, _ => rfl
    | 10, _ => rfl
    | 11, _ => rfl
    | 12, _ => rfl
    | 13, _ => rfl
    | 14, _ => rfl
    | 15, _ => rfl
    | i + 16, h => exact absurd h (by omega))
  have R' := R.alloc (.cells #[.int .u64 0, .int .u64 0, .pointer none] 33)
  have s1 : 0 < w.heap.size := by omega
  clear R
  go_enter Ybad.func6, Ybad.ntmps6
  go_wp2
  go_region_with (go_at_call 12; refine (be64_row (t := 37) h0 h1 ?_ ?_).mono ?_; exact R'; (first | exact Or.inl rfl | exact Or.inr rfl); rintro e w1 ⟨rfl, n1, rfl⟩)
  all_goals
    clear R'
    go_wp2
    refine bodyPost_ret (v := addr 0 lo p6) ?_ rfl ⟨rfl, ?_⟩
    · simp only [results, Ybad.results6]
      go_simp
      exact ⟨rfl, rfl⟩
    · refine (((below_drewN ?_ _).setCell (p := ⟨w.heap.size + 1, 0, none⟩) (Nat.le_succ _) _).setCell (p := ⟨w.heap.size + 1, 1, none⟩) (Nat.le_succ _) _).setCell (p := ⟨w.heap.size + 1, 2, none⟩) (Nat.le_succ _) _
      exact ((Below.refl _ _).alloc (Nat.le_refl _) _).alloc (by rw [World.size_alloc]; omega) _
end Go.Proofs.YbulktckDoor.Net
