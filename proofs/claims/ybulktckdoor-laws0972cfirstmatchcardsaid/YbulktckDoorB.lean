import Derived.Test.YbulktckDoorM
namespace Go.Proofs.YbulktckDoor.Net
open Go.RowKit

theorem xor_high (m a b : Nat) (ha : a < 2 ^ 32) (hb : b < 2 ^ 32) : (2 ^ 32 * m + a) ^^^ (2 ^ 32 * m + b) = a ^^^ b := by
  apply Nat.eq_of_testBit_eq
  intro j
  rw [Nat.testBit_xor, Nat.testBit_xor, Nat.testBit_two_pow_mul_add _ ha, Nat.testBit_two_pow_mul_add _ hb]
  by_cases h : j < 32
  · rw [if_pos h, if_pos h]
  · rw [if_neg h, if_neg h, Nat.testBit_lt_two_pow (Nat.lt_of_lt_of_le ha (Nat.pow_le_pow_right (by omega) (by omega))), Nat.testBit_lt_two_pow (Nat.lt_of_lt_of_le hb (Nat.pow_le_pow_right (by omega) (by omega)))]
    simp

/-- The bits in which two 32-bit words part, above the lowest 32 - k. -/
def xs (v p k : Int) : Int := (((v.toNat ^^^ p.toNat) / 2 ^ (32 - k).toNat : Nat) : Int)

theorem xs_bd (v p k : Int) (v0 : 0 ≤ v) (v1 : v < 4294967296) (p0 : 0 ≤ p) (p1 : p < 4294967296) : 0 ≤ xs v p k ∧ xs v p k < 4294967296 := by
  unfold xs
  have h := Nat.xor_lt_two_pow (x := v.toNat) (y := p.toNat) (n := 32) (by omega) (by omega)
  have h2 := Nat.div_le_self (v.toNat ^^^ p.toNat) (2 ^ (32 - k).toNat)
  generalize (v.toNat ^^^ p.toNat) / 2 ^ (32 - k).toNat = q at *
  omega

theorem xs_zero (v p : Int) (v0 : 0 ≤ v) (v1 : v < 4294967296) (p0 : 0 ≤ p) (p1 : p < 4294967296) : xs v p 0 = 0 := by
  unfold xs
  have h := Nat.xor_lt_two_pow (x := v.toNat) (y := p.toNat) (n := 32) (by omega) (by omega)
  rw [Nat.div_eq_of_lt (by simpa using h)]
  rfl

theorem xor64 (v p : Int) (v0 : 0 ≤ v) (v1 : v < 4294967296) (p0 : 0 ≤ p) (p1 : p < 4294967296) : bits .xor .u64 (lo4 v) (lo4 p) = ((v.toNat ^^^ p.toNat : Nat) : Int) := by
  unfold lo4
  rw [u64_xor _ _ (by omega) (by omega) (by omega) (by omega)]
  rw [show (281470681743360 + v).toNat = 2 ^ 32 * 65535 + v.toNat by omega, show (281470681743360 + p).toNat = 2 ^ 32 * 65535 + p.toNat by omega, xor_high _ _ _ (by omega) (by omega)]

theorem fdiv_nat (a m : Nat) : ((a : Nat) : Int).fdiv (2 ^ m) = ((a / 2 ^ m : Nat) : Int) := by
  rw [Int.fdiv_eq_ediv_of_nonneg _ (by exact_mod_cast Nat.zero_le _)]
  simp

theorem shift64 (v p k : Int) (v0 : 0 ≤ v) (v1 : v < 4294967296) (p0 : 0 ≤ p) (p1 : p < 4294967296) (k0 : 0 ≤ k) (k1 : k ≤ 32) (W : World) :
    (Op.shift .shr .u64 (bits .xor .u64 (lo4 v) (lo4 p)) .i64 (bits .and .i64 (IntKind.i64.wrap (32 - (k + 1 - 1))) 63)).run Ybad.prog W = .ok (.int .u64 (xs v p k)) W := by
  have e1 : IntKind.i64.wrap (32 - (k + 1 - 1)) = 32 - k := by
    rw [IntKind.wrap_i64]
    omega
  have e2 : bits .and .i64 (32 - k) 63 = 32 - k := by
    obtain ⟨m, hm⟩ := Int.eq_ofNat_of_zero_le (show 0 ≤ 32 - k by omega)
    rw [hm]
    have hmm : m ≤ 32 := by omega
    match m, hmm with
    | 0, _ => rfl
    | 1, _ => rfl
    | 2, _ => rfl
    | 3, _ => rfl
    | 4, _ => rfl
    | 5, _ => rfl
    | 6, _ => rfl
    | 7, _ => rfl
    | 8, _ => rfl
    | 9, _ => rfl
    | 10, _ => rfl
    | 11, _ => rfl
    | 12, _ => rfl
    | 13, _ => rfl
    | 14, _ => rfl
    | 15, _ => rfl
    | 16, _ => rfl
    | 17, _ => rfl
    | 18, _ => rfl
    | 19, _ => rfl
    | 20, _ => rfl
    | 21, _ => rfl
    | 22, _ => rfl
    | 23, _ => rfl
    | 24, _ => rfl
    | 25, _ => rfl
    | 26, _ => rfl
    | 27, _ => rfl
    | 28, _ => rfl
    | 29, _ => rfl
    | 30, _ => rfl
    | 31, _ => rfl
    | 32, _ => rfl
    | i + 33, h => exact absurd h (by omega)
  rw [e1, e2, xor64 v p v0 v1 p0 p1]
  unfold Op.shift
  rw [if_neg (by omega)]
  show Result.ok (Value.int .u64 (Int.fdiv _ (2 ^ min (32 - k).toNat 64))) W = _
  rw [show min (32 - k).toNat 64 = (32 - k).toNat by omega, fdiv_nat]
  rfl

theorem u32wrap (x : Int) (h0 : 0 ≤ x) (h1 : x < 4294967296) : IntKind.u32.wrap x = x := by
  rw [IntKind.wrap_u32]
  omega
end Go.Proofs.YbulktckDoor.Net
