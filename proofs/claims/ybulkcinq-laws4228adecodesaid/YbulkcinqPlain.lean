/-
  THE PLAIN LAW: big-endian two's complement, octet by octet.
-/
import Derived.Test.YbulkcinqLen
namespace Go.Proofs.Ybulkcinq
open Go.RowKit

theorem div_pow (v : Int) (a b : Nat) : v / 2 ^ (a + b) = v / 2 ^ a / 2 ^ b := by
  rw [Int.pow_add, Int.ediv_ediv_of_nonneg (Int.le_of_lt (Int.pow_pos (by decide)))]

/-- What is read after i octets. -/
def upTo (v : Int) (n i : Nat) : Int := v / 2 ^ (8 * (n - i))

theorem range64 (v : Int) (hv : (Lit.int .i64 v).wf = true) : -9223372036854775808 ≤ v ∧ v ≤ 9223372036854775807 := by
  simp [Lit.wf, IntKind.min, IntKind.max, IntKind.signed, IntKind.bits] at hv
  omega

theorem fits (v : Int) (n : Nat) (h : Len v n) (hv : (Lit.int .i64 v).wf = true) : small v n := by
  rcases Nat.lt_or_ge n 8 with h8 | h8
  · exact h.fit h8
  · obtain rfl : n = 8 := by have := h.hi; omega
    rw [small_iff]
    have := range64 v hv
    omega

theorem top_byte (v : Int) (n : Nat) (h : Len v n) (hs : small v n) : (128 ≤ octet v (n - 1) → upTo v n 0 = -1) ∧ (octet v (n - 1) < 128 → upTo v n 0 = 0) := by
  have h1 := h.lo
  unfold small at hs
  unfold octet upTo
  rw [show 8 * n - 1 = 8 * (n - 1) + 7 by omega, div_pow] at hs
  rw [show 8 * (n - 0) = 8 * (n - 1) + 8 by omega, div_pow]
  generalize v / 2 ^ (8 * (n - 1)) = q at *
  omega

theorem upTo_step (v : Int) (n i : Nat) (h : i < n) : upTo v n i = upTo v n (i + 1) / 256 ∧ octet v (n - 1 - i) = upTo v n (i + 1) % 256 := by
  unfold octet upTo
  rw [show 8 * (n - i) = 8 * (n - (i + 1)) + 8 by omega, div_pow, show n - 1 - i = n - (i + 1) by omega]
  exact ⟨rfl, rfl⟩

theorem upTo_last (v : Int) (n : Nat) : upTo v n n = v := by simp [upTo]

theorem upTo_range (v : Int) (n i : Nat) (h : i < n) (hv : -9223372036854775808 ≤ v ∧ v ≤ 9223372036854775807) : -36028797018963968 ≤ upTo v n i ∧ upTo v n i ≤ 36028797018963967 := by
  unfold upTo
  rw [show 8 * (n - i) = 8 + 8 * (n - 1 - i) by omega, div_pow]
  have hp : (0 : Int) < 2 ^ (8 * (n - 1 - i)) := Int.pow_pos (by decide)
  have hq : -36028797018963968 ≤ v / 2 ^ 8 ∧ v / 2 ^ 8 ≤ 36028797018963967 := by omega
  generalize v / 2 ^ 8 = q at *
  constructor
  · rw [Int.le_ediv_iff_mul_le hp]
    have : -36028797018963968 * 2 ^ (8 * (n - 1 - i)) ≤ -36028797018963968 * (1 : Int) := Int.mul_le_mul_of_nonpos_left (by omega) (by omega)
    omega
  · have h3 : q / 2 ^ (8 * (n - 1 - i)) < 36028797018963968 := by
      rw [Int.ediv_lt_iff_lt_mul hp]
      have : 36028797018963968 * (1 : Int) ≤ 36028797018963968 * 2 ^ (8 * (n - 1 - i)) := Int.mul_le_mul_of_nonneg_left (by omega) (by omega)
      omega
    omega

theorem or_low (x y : Int) (h1 : -9223372036854775808 ≤ x) (h2 : x ≤ 9223372036854775807) (h3 : x % 256 = 0) (h4 : 0 ≤ y) (h5 : y < 256) : bits .or .i64 x y = x + y := by
  have e1 : (BitVec.ofInt 64 x).toNat = (x % 18446744073709551616).toNat := by simp [BitVec.toNat_ofInt]
  have e2 : (BitVec.ofInt 64 y).toNat = y.toNat := by simp [BitVec.toNat_ofInt]; omega
  have e3 : (x % 18446744073709551616).toNat = 2 ^ 8 * ((x % 18446744073709551616).toNat / 256) := by omega
  have e4 : (x % 18446744073709551616).toNat ||| y.toNat = (x % 18446744073709551616).toNat + y.toNat := by
    rw [e3, Nat.two_pow_add_eq_or_of_lt (by omega)]
  have e5 : bits .or .i64 x y = IntKind.i64.wrap ((BitVec.ofInt 64 x ||| BitVec.ofInt 64 y).toNat : Int) := rfl
  rw [e5, BitVec.toNat_or, e1, e2, e4]
  rw [IntKind.wrap_i64]
  omega

theorem no_spare (v : Int) (n : Nat) (h : Len v n) (hs : small v n) (h2 : 2 ≤ n) : (octet v (n - 1) = 0 → 128 ≤ octet v (n - 2)) ∧ (octet v (n - 1) = 255 → octet v (n - 2) < 128) := by
  have h1 := h.least (n - 1) (by omega) (by omega)
  unfold small at hs h1
  unfold octet
  rw [show 8 * n - 1 = 8 * (n - 1) + 7 by omega, div_pow] at hs
  rw [show 8 * (n - 1) = 8 * (n - 2) + 8 by omega, div_pow] at hs ⊢
  rw [show 8 * (n - 1) - 1 = 8 * (n - 2) + 7 by omega, div_pow] at h1
  generalize v / 2 ^ (8 * (n - 2)) = q at *
  omega

theorem wrapIn (n : Int) (h1 : -9223372036854775808 ≤ n) (h2 : n ≤ 9223372036854775807) : wrap64 n = n := by unfold wrap64; omega

theorem read_step (v : Int) (n i : Nat) (h : i < n) (hv : (Lit.int .i64 v).wf = true) : bits .or .i64 (wrap64 (upTo v n i * 256)) (wrap64 (octet v (n - 1 - i))) = upTo v n (i + 1) := by
  obtain ⟨e1, e2⟩ := upTo_step v n i h
  obtain ⟨r1, r2⟩ := upTo_range v n i h (range64 v hv)
  rw [wrapIn _ (by omega) (by omega), wrapIn _ (by omega) (by omega), or_low _ _ (by omega) (by omega) (by omega) (by omega) (by omega)]
  omega

end Go.Proofs.Ybulkcinq
