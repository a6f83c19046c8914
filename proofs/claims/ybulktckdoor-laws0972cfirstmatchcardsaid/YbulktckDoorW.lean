import Derived.Test.YbulktckDoorZ
namespace Go.Proofs.YbulktckDoor.Net
open Go.RowKit

/-- The address's 32 bits as a number; the lower half of an IPv4 Addr. -/
def wd (a b c d : Int) : Int := a * 16777216 + b * 65536 + c * 256 + d
def lo4 (v : Int) : Int := 281470681743360 + v

theorem wraps_u64 (n : Int) (h0 : 0 ≤ n) (h1 : n < 2 ^ 64) : IntKind.u64.wrap n = n := by
  rw [IntKind.wrap_u64]
  omega
theorem wraps_u32 (n : Int) (h0 : 0 ≤ n) (h1 : n < 2 ^ 32) : IntKind.u32.wrap n = n := by
  rw [IntKind.wrap_u32]
  omega

theorem or32 (x y : Int) (i : Nat) (hx0 : 0 ≤ x) (hx : x % 2 ^ i = 0) (hx1 : x < 2 ^ 32) (hy0 : 0 ≤ y) (hy : y < 2 ^ i) (hy1 : y < 2 ^ 32) : bits .or .u32 x y = x + y :=
  bits_join .u32 32 (by decide) wraps_u32 i x y hx0 hx hx1 hy0 hy hy1
theorem or64 (x y : Int) (i : Nat) (hx0 : 0 ≤ x) (hx : x % 2 ^ i = 0) (hx1 : x < 2 ^ 64) (hy0 : 0 ≤ y) (hy : y < 2 ^ i) (hy1 : y < 2 ^ 64) : bits .or .u64 x y = x + y :=
  bits_join .u64 64 (by decide) wraps_u64 i x y hx0 hx hx1 hy0 hy hy1

theorem word32 (a b c d : Int) (a0 : 0 ≤ a) (a1 : a ≤ 255) (b0 : 0 ≤ b) (b1 : b ≤ 255) (c0 : 0 ≤ c) (c1 : c ≤ 255) (d0 : 0 ≤ d) (d1 : d ≤ 255) :
    bits .or .u32 (bits .or .u32 (bits .or .u32 (a * 16777216) (b * 65536)) (c * 256)) d = wd a b c d := by
  rw [or32 (a * 16777216) (b * 65536) 24 (by omega) (by omega) (by omega) (by omega) (by omega) (by omega), or32 _ (c * 256) 16 (by omega) (by omega) (by omega) (by omega) (by omega) (by omega), or32 _ d 8 (by omega) (by omega) (by omega) (by omega) (by omega) (by omega)]
  rfl

theorem word64 (a b c d : Int) (a0 : 0 ≤ a) (a1 : a ≤ 255) (b0 : 0 ≤ b) (b1 : b ≤ 255) (c0 : 0 ≤ c) (c1 : c ≤ 255) (d0 : 0 ≤ d) (d1 : d ≤ 255) :
    bits .or .u64 (bits .or .u64 (bits .or .u64 (bits .or .u64 281470681743360 (a * 16777216)) (b * 65536)) (c * 256)) d = lo4 (wd a b c d) := by
  rw [or64 281470681743360 (a * 16777216) 32 (by omega) (by omega) (by omega) (by omega) (by omega) (by omega), or64 _ (b * 65536) 24 (by omega) (by omega) (by omega) (by omega) (by omega) (by omega), or64 _ (c * 256) 16 (by omega) (by omega) (by omega) (by omega) (by omega) (by omega), or64 _ d 8 (by omega) (by omega) (by omega) (by omega) (by omega) (by omega)]
  unfold lo4 wd
  omega

theorem wd_bd (a b c d : Int) (a0 : 0 ≤ a) (a1 : a ≤ 255) (b0 : 0 ≤ b) (b1 : b ≤ 255) (c0 : 0 ≤ c) (c1 : c ≤ 255) (d0 : 0 ≤ d) (d1 : d ≤ 255) : 0 ≤ wd a b c d ∧ wd a b c d < 4294967296 := by
  unfold wd
  omega

theorem ret_int {k : IntKind} {a b : Int} (h : a = b) : Ending.returned (.int k a) = .returned (.int k b) := by rw [h]

set_option maxRecDepth 100000 in
theorem word_any (a b c d : Int) (ha : 0 ≤ a ∧ a ≤ 255) (hb : 0 ≤ b ∧ b ≤ 255) (hc : 0 ≤ c ∧ c ≤ 255) (hd : 0 ≤ d ∧ d ≤ 255) (w : World) :
    Calls Ybad.prog 9 #[.int .u8 a, .int .u8 b, .int .u8 c, .int .u8 d] w fun e w' => e = .returned (.int .u32 (wd a b c d)) ∧ w = w' := by
  obtain ⟨a0, a1⟩ := ha
  obtain ⟨b0, b1⟩ := hb
  obtain ⟨c0, c1⟩ := hc
  obtain ⟨d0, d1⟩ := hd
  go_enter Ybad.func9, Ybad.ntmps9
  go_wp2
  go_ret
  exact ⟨ret_int (word32 a b c d a0 a1 b0 b1 c0 c1 d0 d1), rfl⟩

set_option maxRecDepth 100000 in
theorem from4_any (a b c d : Int) (ha : 0 ≤ a ∧ a ≤ 255) (hb : 0 ≤ b ∧ b ≤ 255) (hc : 0 ≤ c ∧ c ≤ 255) (hd : 0 ≤ d ∧ d ≤ 255) (p4 p6 : Addr) (w : World) (Z : ZZ w p4 p6) :
    Calls Ybad.prog 5 #[.agg #[.int .u8 a, .int .u8 b, .int .u8 c, .int .u8 d]] w fun e w' => e = .returned (addr 0 (lo4 (wd a b c d)) p4) ∧ Below w.heap.size w w' := by
  obtain ⟨a0, a1⟩ := ha
  obtain ⟨b0, b1⟩ := hb
  obtain ⟨c0, c1⟩ := hc
  obtain ⟨d0, d1⟩ := hd
  rw [← word64 a b c d a0 a1 b0 b1 c0 c1 d0 d1]
  have s0 : 0 < w.heap.size := by have := Z.sz; omega
  have g0 := Z.g0
  clear Z
  go_enter Ybad.func5, Ybad.ntmps5
  go_wp2
  refine bodyPost_ret (v := addr 0 _ p4) (by simp [results, Ybad.results5, go_sem]) rfl ⟨rfl, ?_⟩
  exact ((Below.refl _ _).alloc (Nat.le_refl _) _).alloc (by rw [World.size_alloc]; omega) _
end Go.Proofs.YbulktckDoor.Net
