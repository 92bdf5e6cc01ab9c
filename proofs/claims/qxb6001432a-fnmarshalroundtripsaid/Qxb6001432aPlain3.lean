/-
  THE SEAT's PLAIN MATHEMATICS, more: an INTEGER read back; 'n<<8 | b'.
-/
import Derived.Test.Qxb6001432aPlain2
import Derived.Laws.BitsLemmas
namespace Go.Proofs.Qxb6001432a

theorem or_i64 (V b : Int) (hb0 : 0 ≤ b) (hb1 : b < 256) (h0 : -36028797018963968 ≤ V) (h1 : V < 36028797018963968) : bits .or .i64 (V * 256) b = V * 256 + b := by
  have hA : (BitVec.ofInt 64 (V * 256)).toNat = (V * 256 % 18446744073709551616).toNat := by rw [BitVec.toNat_ofInt]; rfl
  have hB : (BitVec.ofInt 64 b).toNat = b.toNat := by rw [BitVec.toNat_ofInt]; show (b % 18446744073709551616).toNat = _; omega
  show IntKind.i64.wrap ((BitVec.ofInt 64 (V * 256) ||| BitVec.ofInt 64 b).toNat : Int) = _
  rw [BitVec.toNat_or, hA, hB]
  obtain ⟨q, hq⟩ : ∃ q : Nat, (V * 256 % 18446744073709551616).toNat = 2 ^ 8 * q := ⟨(V * 256 % 18446744073709551616).toNat / 256, by omega⟩
  rw [hq, ← Nat.two_pow_add_eq_or_of_lt (show b.toNat < 2 ^ 8 by omega) q, ← hq, IntKind.wrap_i64]
  omega

theorem wraps_i64 (n : Int) (h₀ : 0 ≤ n) (h₁ : n < 2 ^ 63) : IntKind.i64.wrap n = n := by rw [IntKind.wrap_i64]; omega
theorem and_127 (k : Nat) (h : k < 128) : bits .and .i64 (128 + (k : Int)) 127 = (k : Int) := by
  have := bits_mask .i64 63 (by decide) wraps_i64 7 (by decide) (128 + (k : Int)) (by omega) (by omega)
  have e : ((2 : Int) ^ 7 - 1) = 127 := by decide
  rw [e] at this
  rw [this]
  omega

/-- What has been read of x when k of its N octets are read. -/
def vk (x : Int) (N k : Nat) : Int := x / 2 ^ (8 * (N - k))
theorem vk_step (x : Int) (N k : Nat) (h : k < N) : vk x N k * 256 + (ib x N k : Nat) = vk x N (k + 1) := by
  unfold vk
  rw [ib_cast, show N - 1 - k = N - (k + 1) by omega]
  have e : 8 * (N - k) = 8 * (N - (k + 1)) + 8 := by omega
  have e2 : (2 : Int) ^ (8 * (N - (k + 1)) + 8) = 2 ^ (8 * (N - (k + 1))) * 256 := by rw [Int.pow_add]; rfl
  rw [e, e2, ← Int.ediv_ediv_of_nonneg (Int.le_of_lt (Int.pow_pos (by decide)))]
  generalize x / 2 ^ (8 * (N - (k + 1))) = y
  omega
theorem vk_end (x : Int) (N : Nat) : vk x N N = x := by simp [vk]
theorem vk_bd (x : Int) (N k : Nat) (h0 : -9223372036854775808 ≤ x) (h1 : x ≤ 9223372036854775807) : -9223372036854775808 ≤ vk x N k ∧ vk x N k ≤ 9223372036854775807 := by
  unfold vk
  have hp : (0 : Int) < 2 ^ (8 * (N - k)) := Int.pow_pos (by decide)
  generalize (2 : Int) ^ (8 * (N - k)) = p at hp
  constructor
  · rw [Int.le_ediv_iff_mul_le hp]
    have : (1 : Int) ≤ p := hp
    have := Int.mul_le_mul_of_nonneg_left this (show (0 : Int) ≤ 9223372036854775808 by decide)
    omega
  · apply Int.le_trans (Int.ediv_le_ediv hp h1)
    exact Int.ediv_le_self _ (by decide)
theorem vk_small (x : Int) (N k : Nat) (h : k < N) (h0 : -9223372036854775808 ≤ x) (h1 : x ≤ 9223372036854775807) : -36028797018963968 ≤ vk x N k ∧ vk x N k < 36028797018963968 := by
  have := vk_step x N k h
  have := vk_bd x N (k + 1) h0 h1
  have := ib_lt x N k
  omega
theorem vk_first (x : Int) (h0 : -9223372036854775808 ≤ x) (h1 : x ≤ 9223372036854775807) : (128 ≤ ib x (ilen x) 0 ∧ vk x (ilen x) 0 = -1) ∨ (ib x (ilen x) 0 < 128 ∧ vk x (ilen x) 0 = 0) := by
  have hb := ilen_bd x
  have e0 := ib_cast x (ilen x) 0
  have e1 : vk x (ilen x) 0 = x / 2 ^ (8 * (ilen x - 0)) := rfl
  have q1 := ilen_1 x
  have q2 := ilen_2 x
  have q3 := ilen_3 x
  have q4 := ilen_4 x
  have q5 := ilen_5 x
  have q6 := ilen_6 x
  have q7 := ilen_7 x
  generalize ib x (ilen x) 0 = y at *
  generalize vk x (ilen x) 0 = z at *
  generalize ilen x = N at *
  obtain rfl | rfl | rfl | rfl | rfl | rfl | rfl | rfl : N = 1 ∨ N = 2 ∨ N = 3 ∨ N = 4 ∨ N = 5 ∨ N = 6 ∨ N = 7 ∨ N = 8 := by omega
  all_goals
    simp only [Nat.reduceSub, Nat.reduceMul, Nat.sub_zero, Int.reducePow, Nat.sub_self, Nat.mul_zero, Int.pow_zero, Int.ediv_one] at e0 e1
    omega
end Go.Proofs.Qxb6001432a
