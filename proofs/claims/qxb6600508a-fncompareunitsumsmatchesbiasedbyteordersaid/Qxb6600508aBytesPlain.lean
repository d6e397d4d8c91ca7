import Derived.Laws.BitsAllLaws
/-! The 16 bytes of a sum, most significant first, and their order. No Go in sight. -/
namespace Go.Proofs.Qxb6600508a.Bytes

/-- The 128-bit number, its sign bit flipped. -/
def num (hi lo : Int) : Int := (hi + 9223372036854775808) * 18446744073709551616 + lo
/-- Byte j of the 16, the most significant first. -/
def byt (N : Int) (j : Nat) : Int := N / 256 ^ (15 - j) % 256

theorem xor_top (a : Nat) (h : a < 18446744073709551616) : a ^^^ 9223372036854775808 = (a + 9223372036854775808) % 18446744073709551616 := by
  have h1 : (a ^^^ 9223372036854775808) / 2 ^ 63 = a / 2 ^ 63 ^^^ 9223372036854775808 / 2 ^ 63 := Nat.xor_div_two_pow
  have h2 : (a ^^^ 9223372036854775808) % 2 ^ 63 = a % 2 ^ 63 ^^^ 9223372036854775808 % 2 ^ 63 := Nat.xor_mod_two_pow
  have e1 : 9223372036854775808 / 2 ^ 63 = 1 := by decide
  have e2 : 9223372036854775808 % 2 ^ 63 = 0 := by decide
  rw [e1] at h1
  rw [e2, Nat.xor_zero] at h2
  rcases Nat.lt_or_ge a 9223372036854775808 with k | k
  · have e3 : a / 2 ^ 63 = 0 := by omega
    rw [e3] at h1
    have e4 : (0 ^^^ 1 : Nat) = 1 := by decide
    rw [e4] at h1
    omega
  · have e3 : a / 2 ^ 63 = 1 := by omega
    rw [e3] at h1
    have e4 : (1 ^^^ 1 : Nat) = 0 := by decide
    rw [e4] at h1
    omega

theorem flip (hi : Int) (h : -9223372036854775808 ≤ hi ∧ hi ≤ 9223372036854775807) : bits BinOp.xor IntKind.u64 (IntKind.u64.wrap hi) 9223372036854775808 = hi + 9223372036854775808 := by
  have hw : IntKind.u64.wrap hi = hi % 18446744073709551616 := IntKind.wrap_u64 hi
  rw [hw, u64_xor _ _ (by omega) (by omega) (by omega) (by omega)]
  rw [show (9223372036854775808 : Int).toNat = 9223372036854775808 by decide, xor_top _ (by omega)]
  omega

theorem num_range (hi lo : Int) (h : -9223372036854775808 ≤ hi ∧ hi ≤ 9223372036854775807) (k : 0 ≤ lo ∧ lo ≤ 18446744073709551615) : 0 ≤ num hi lo ∧ num hi lo < 256 ^ 16 := by
  unfold num
  have e : (256 : Int) ^ 16 = 340282366920938463463374607431768211456 := by decide
  rw [e]
  omega

/-- The first i bytes of two numbers are the same. -/
def pre (N M : Int) (i : Nat) : Prop := N / 256 ^ (16 - i) = M / 256 ^ (16 - i)

theorem pre_zero {N M : Int} (h : 0 ≤ N ∧ N < 256 ^ 16) (k : 0 ≤ M ∧ M < 256 ^ 16) : pre N M 0 := by
  unfold pre
  rw [show 16 - 0 = 16 from rfl, Int.ediv_eq_zero_of_lt h.1 h.2, Int.ediv_eq_zero_of_lt k.1 k.2]

theorem split (N : Int) (i : Nat) (h : i < 16) : N / 256 ^ (16 - i) = N / 256 ^ (15 - i) / 256 := by
  rw [show 16 - i = (15 - i) + 1 by omega, Int.pow_succ, Int.ediv_ediv_of_nonneg (by have : (0 : Int) ≤ 256 ^ (15 - i) := Int.pow_nonneg (by decide); exact this)]

theorem pre_step {N M : Int} {i : Nat} (hi : i < 16) (h : pre N M i) (e : byt N i = byt M i) : pre N M (i + 1) := by
  unfold pre at h ⊢
  unfold byt at e
  rw [split N i hi, split M i hi] at h
  rw [show 16 - (i + 1) = 15 - i by omega]
  omega

theorem pre_lt {N M : Int} {i : Nat} (hi : i < 16) (h : pre N M i) (e : byt N i < byt M i) : N < M := by
  unfold pre at h
  unfold byt at e
  rw [split N i hi, split M i hi] at h
  have hlt : N / 256 ^ (15 - i) < M / 256 ^ (15 - i) := by omega
  have hp : (0 : Int) < 256 ^ (15 - i) := Int.pow_pos (by decide)
  rcases Int.lt_or_le N M with k | k
  · exact k
  · have := Int.ediv_le_ediv hp k
    omega

theorem pre_end {N M : Int} (h : pre N M 16) : N = M := by
  unfold pre at h
  simpa using h

theorem byt_range (N : Int) (i : Nat) : 0 ≤ byt N i ∧ byt N i ≤ 255 := by unfold byt; omega

theorem byt0 (hi lo : Int) (_k : 0 ≤ lo ∧ lo ≤ 18446744073709551615) : (hi + 9223372036854775808) / 2 ^ 56 % 256 = byt (num hi lo) 0 := by
  unfold byt num
  rw [show (256 : Int) ^ (15 - 0) = 1329227995784915872903807060280344576 by decide, show (2 : Int) ^ 56 = 72057594037927936 by decide]
  omega
theorem byt1 (hi lo : Int) (_k : 0 ≤ lo ∧ lo ≤ 18446744073709551615) : (hi + 9223372036854775808) / 2 ^ 48 % 256 = byt (num hi lo) 1 := by
  unfold byt num
  rw [show (256 : Int) ^ (15 - 1) = 5192296858534827628530496329220096 by decide, show (2 : Int) ^ 48 = 281474976710656 by decide]
  omega
theorem byt2 (hi lo : Int) (_k : 0 ≤ lo ∧ lo ≤ 18446744073709551615) : (hi + 9223372036854775808) / 2 ^ 40 % 256 = byt (num hi lo) 2 := by
  unfold byt num
  rw [show (256 : Int) ^ (15 - 2) = 20282409603651670423947251286016 by decide, show (2 : Int) ^ 40 = 1099511627776 by decide]
  omega
theorem byt3 (hi lo : Int) (_k : 0 ≤ lo ∧ lo ≤ 18446744073709551615) : (hi + 9223372036854775808) / 2 ^ 32 % 256 = byt (num hi lo) 3 := by
  unfold byt num
  rw [show (256 : Int) ^ (15 - 3) = 79228162514264337593543950336 by decide, show (2 : Int) ^ 32 = 4294967296 by decide]
  omega
theorem byt4 (hi lo : Int) (_k : 0 ≤ lo ∧ lo ≤ 18446744073709551615) : (hi + 9223372036854775808) / 2 ^ 24 % 256 = byt (num hi lo) 4 := by
  unfold byt num
  rw [show (256 : Int) ^ (15 - 4) = 309485009821345068724781056 by decide, show (2 : Int) ^ 24 = 16777216 by decide]
  omega
theorem byt5 (hi lo : Int) (_k : 0 ≤ lo ∧ lo ≤ 18446744073709551615) : (hi + 9223372036854775808) / 2 ^ 16 % 256 = byt (num hi lo) 5 := by
  unfold byt num
  rw [show (256 : Int) ^ (15 - 5) = 1208925819614629174706176 by decide, show (2 : Int) ^ 16 = 65536 by decide]
  omega
theorem byt6 (hi lo : Int) (_k : 0 ≤ lo ∧ lo ≤ 18446744073709551615) : (hi + 9223372036854775808) / 2 ^ 8 % 256 = byt (num hi lo) 6 := by
  unfold byt num
  rw [show (256 : Int) ^ (15 - 6) = 4722366482869645213696 by decide, show (2 : Int) ^ 8 = 256 by decide]
  omega
theorem byt7 (hi lo : Int) (_k : 0 ≤ lo ∧ lo ≤ 18446744073709551615) : (hi + 9223372036854775808) / 2 ^ 0 % 256 = byt (num hi lo) 7 := by
  unfold byt num
  rw [show (256 : Int) ^ (15 - 7) = 18446744073709551616 by decide, show (2 : Int) ^ 0 = 1 by decide]
  omega
theorem byt8 (hi lo : Int) (_k : 0 ≤ lo ∧ lo ≤ 18446744073709551615) : lo / 2 ^ 56 % 256 = byt (num hi lo) 8 := by
  unfold byt num
  rw [show (256 : Int) ^ (15 - 8) = 72057594037927936 by decide, show (2 : Int) ^ 56 = 72057594037927936 by decide]
  omega
theorem byt9 (hi lo : Int) (_k : 0 ≤ lo ∧ lo ≤ 18446744073709551615) : lo / 2 ^ 48 % 256 = byt (num hi lo) 9 := by
  unfold byt num
  rw [show (256 : Int) ^ (15 - 9) = 281474976710656 by decide, show (2 : Int) ^ 48 = 281474976710656 by decide]
  omega
theorem byt10 (hi lo : Int) (_k : 0 ≤ lo ∧ lo ≤ 18446744073709551615) : lo / 2 ^ 40 % 256 = byt (num hi lo) 10 := by
  unfold byt num
  rw [show (256 : Int) ^ (15 - 10) = 1099511627776 by decide, show (2 : Int) ^ 40 = 1099511627776 by decide]
  omega
theorem byt11 (hi lo : Int) (_k : 0 ≤ lo ∧ lo ≤ 18446744073709551615) : lo / 2 ^ 32 % 256 = byt (num hi lo) 11 := by
  unfold byt num
  rw [show (256 : Int) ^ (15 - 11) = 4294967296 by decide, show (2 : Int) ^ 32 = 4294967296 by decide]
  omega
theorem byt12 (hi lo : Int) (_k : 0 ≤ lo ∧ lo ≤ 18446744073709551615) : lo / 2 ^ 24 % 256 = byt (num hi lo) 12 := by
  unfold byt num
  rw [show (256 : Int) ^ (15 - 12) = 16777216 by decide, show (2 : Int) ^ 24 = 16777216 by decide]
  omega
theorem byt13 (hi lo : Int) (_k : 0 ≤ lo ∧ lo ≤ 18446744073709551615) : lo / 2 ^ 16 % 256 = byt (num hi lo) 13 := by
  unfold byt num
  rw [show (256 : Int) ^ (15 - 13) = 65536 by decide, show (2 : Int) ^ 16 = 65536 by decide]
  omega
theorem byt14 (hi lo : Int) (_k : 0 ≤ lo ∧ lo ≤ 18446744073709551615) : lo / 2 ^ 8 % 256 = byt (num hi lo) 14 := by
  unfold byt num
  rw [show (256 : Int) ^ (15 - 14) = 256 by decide, show (2 : Int) ^ 8 = 256 by decide]
  omega
theorem byt15 (hi lo : Int) (_k : 0 ≤ lo ∧ lo ≤ 18446744073709551615) : lo / 2 ^ 0 % 256 = byt (num hi lo) 15 := by
  unfold byt num
  rw [show (256 : Int) ^ (15 - 15) = 1 by decide, show (2 : Int) ^ 0 = 1 by decide]
  omega

end Go.Proofs.Qxb6600508a.Bytes
