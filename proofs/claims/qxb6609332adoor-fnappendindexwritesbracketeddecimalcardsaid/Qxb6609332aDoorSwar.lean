/-
  PLAIN LAWS of seat b6609332aD: eight decimal digits worked out side by side in the bytes of one word; no Go in sight but the model's bitwise operators at the end.
-/
import Derived.Lib.EndianBits
import Derived.Lib.ItoaNum
import Derived.Lib.TrailingZeros
import Derived.Lib.Endian
namespace Go.Proofs.Qxb6609332aDoor

/-! ### Lanes -/
theorem and_split (k v a b : Nat) (ha : a < 2 ^ k) : v &&& (2 ^ k * b + a) = 2 ^ k * (v / 2 ^ k &&& b) + (v % 2 ^ k &&& a) := by
  have hlt : v % 2 ^ k &&& a < 2 ^ k := Nat.and_lt_two_pow _ ha
  apply Nat.eq_of_testBit_eq
  intro i
  rw [Nat.testBit_and, Nat.testBit_two_pow_mul_add _ ha, Nat.testBit_two_pow_mul_add _ hlt]
  by_cases h : i < k
  · simp [h, Nat.testBit_and, Nat.testBit_mod_two_pow]
  · simp [h, Nat.testBit_and, Nat.testBit_div_two_pow]
    rw [Nat.sub_add_cancel (by omega)]

theorem or_split (k a b c d : Nat) (ha : a < 2 ^ k) (hc : c < 2 ^ k) : (2 ^ k * b + a) ||| (2 ^ k * d + c) = 2 ^ k * (b ||| d) + (a ||| c) := by
  have hlt : a ||| c < 2 ^ k := Nat.or_lt_two_pow ha hc
  apply Nat.eq_of_testBit_eq
  intro i
  rw [Nat.testBit_or, Nat.testBit_two_pow_mul_add _ ha, Nat.testBit_two_pow_mul_add _ hc, Nat.testBit_two_pow_mul_add _ hlt]
  by_cases h : i < k
  · simp [h, Nat.testBit_or]
  · simp [h, Nat.testBit_or]

/-- 'lo | hi << k'. -/
theorem or_low (k a b : Nat) (ha : a < 2 ^ k) : a ||| (2 ^ k * b) = 2 ^ k * b + a := by
  have h := or_split k a 0 0 b ha (Nat.two_pow_pos k)
  simpa using h

theorem and_127 (v : Nat) : v &&& 127 = v % 128 := Nat.and_two_pow_sub_one_eq_mod v 7
theorem and_15 (v : Nat) : v &&& 15 = v % 16 := Nat.and_two_pow_sub_one_eq_mod v 4

/-! ### The lanes: a1 b1 a2 b2 below 100; p.. the eight digits -/
section
variable (a1 b1 a2 b2 : Nat)

theorem lane_q1 (h1 : a1 < 100) (k1 : b1 < 100) (h2 : a2 < 100) (k2 : b2 < 100) :
    ((100 * a1 + b1) + (100 * a2 + b2) * 4294967296) * 10486 / 1048576 &&& 545460846719 = a1 + a2 * 4294967296 := by
  obtain ⟨r1, e1⟩ : ∃ r1, r1 = 24 * a1 + 10486 * b1 := ⟨_, rfl⟩
  obtain ⟨r2, e2⟩ : ∃ r2, r2 = 24 * a2 + 10486 * b2 := ⟨_, rfl⟩
  have hr1 : r1 < 1048576 := by omega
  have hr2 : r2 < 1048576 := by omega
  have e3 : ((100 * a1 + b1) + (100 * a2 + b2) * 4294967296) * 10486 = 1048576 * (a1 + a2 * 4294967296 + r2 * 4096) + r1 := by omega
  have e4 : ((100 * a1 + b1) + (100 * a2 + b2) * 4294967296) * 10486 / 1048576 = a1 + a2 * 4294967296 + r2 * 4096 := by rw [e3]; omega
  have em : (545460846719 : Nat) = 2 ^ 32 * 127 + 127 := by decide
  rw [e4, em, and_split 32 _ 127 127 (by decide), and_127, and_127]
  clear e1 e2 e3 e4 em hr1
  have e5 : (a1 + a2 * 4294967296 + r2 * 4096) / 2 ^ 32 = a2 := by omega
  have e6 : (a1 + a2 * 4294967296 + r2 * 4096) % 2 ^ 32 = a1 + r2 * 4096 := by omega
  rw [e5, e6]
  omega

theorem lane_x2 (h1 : a1 < 100) (k1 : b1 < 100) (h2 : a2 < 100) (k2 : b2 < 100) :
    (a1 + a2 * 4294967296) ||| (((100 * a1 + b1) + (100 * a2 + b2) * 4294967296) - 100 * (a1 + a2 * 4294967296)) * 65536 = a1 + b1 * 65536 + a2 * 4294967296 + b2 * 281474976710656 := by
  have e1 : a1 + a2 * 4294967296 = 2 ^ 32 * a2 + a1 := by omega
  have e2 : (((100 * a1 + b1) + (100 * a2 + b2) * 4294967296) - 100 * (a1 + a2 * 4294967296)) * 65536 = 2 ^ 32 * (2 ^ 16 * b2) + 2 ^ 16 * b1 := by omega
  rw [e2, e1, or_split 32 _ _ _ _ (by omega) (by omega), or_low 16 _ _ (by omega), or_low 16 _ _ (by omega)]
  omega
end

/-- The word whose bytes are the eight digits, the first in the lowest. -/
def word (d0 d1 d2 d3 d4 d5 d6 d7 : Nat) : Nat := d0 + d1 * 256 + d2 * 65536 + d3 * 16777216 + d4 * 4294967296 + d5 * 1099511627776 + d6 * 281474976710656 + d7 * 72057594037927936

theorem lane_q2 (d0 d1 d2 d3 d4 d5 d6 d7 : Nat) (g0 : d0 < 10) (g1 : d1 < 10) (g2 : d2 < 10) (g3 : d3 < 10) (g4 : d4 < 10) (g5 : d5 < 10) (g6 : d6 < 10) (g7 : d7 < 10) :
    ((10 * d0 + d1) + (10 * d2 + d3) * 65536 + (10 * d4 + d5) * 4294967296 + (10 * d6 + d7) * 281474976710656) * 103 / 1024 &&& 4222189076152335 = d0 + d2 * 65536 + d4 * 4294967296 + d6 * 281474976710656 := by
  obtain ⟨s0, e0⟩ : ∃ s, s = 6 * d0 + 103 * d1 := ⟨_, rfl⟩
  obtain ⟨s1, e1⟩ : ∃ s, s = 6 * d2 + 103 * d3 := ⟨_, rfl⟩
  obtain ⟨s2, e2⟩ : ∃ s, s = 6 * d4 + 103 * d5 := ⟨_, rfl⟩
  obtain ⟨s3, e3⟩ : ∃ s, s = 6 * d6 + 103 * d7 := ⟨_, rfl⟩
  have l0 : s0 < 1024 := by omega
  have l1 : s1 < 1024 := by omega
  have l2 : s2 < 1024 := by omega
  have l3 : s3 < 1024 := by omega
  have e4 : ((10 * d0 + d1) + (10 * d2 + d3) * 65536 + (10 * d4 + d5) * 4294967296 + (10 * d6 + d7) * 281474976710656) * 103 = 1024 * (d0 + (d2 * 65536 + s1 * 64) + (d4 * 4294967296 + s2 * 4194304) + (d6 * 281474976710656 + s3 * 274877906944)) + s0 := by omega
  have e5 : ((10 * d0 + d1) + (10 * d2 + d3) * 65536 + (10 * d4 + d5) * 4294967296 + (10 * d6 + d7) * 281474976710656) * 103 / 1024 = d0 + (d2 * 65536 + s1 * 64) + (d4 * 4294967296 + s2 * 4194304) + (d6 * 281474976710656 + s3 * 274877906944) := by rw [e4]; omega
  have em : (4222189076152335 : Nat) = 2 ^ 16 * (2 ^ 16 * (2 ^ 16 * 15 + 15) + 15) + 15 := by decide
  rw [e5, em]
  clear e0 e1 e2 e3 e4 e5 em l0 g1 g3 g5 g7
  have v0 : (d0 + (d2 * 65536 + s1 * 64) + (d4 * 4294967296 + s2 * 4194304) + (d6 * 281474976710656 + s3 * 274877906944)) = 2 ^ 16 * (2 ^ 16 * (2 ^ 16 * d6 + (d4 + s3 * 64)) + (d2 + s2 * 64)) + (d0 + s1 * 64) := by omega
  have dv : ∀ q r : Nat, r < 2 ^ 16 → (2 ^ 16 * q + r) / 2 ^ 16 = q ∧ (2 ^ 16 * q + r) % 2 ^ 16 = r := fun q r hr => ⟨by omega, by omega⟩
  rw [v0, and_split 16 _ 15 _ (by decide), (dv _ _ (by omega)).1, (dv _ _ (by omega)).2, and_split 16 _ 15 _ (by decide), (dv _ _ (by omega)).1, (dv _ _ (by omega)).2, and_split 16 _ 15 _ (by decide), (dv _ _ (by omega)).1, (dv _ _ (by omega)).2, and_15, and_15, and_15, and_15]
  omega

theorem lane_x3 (d0 d1 d2 d3 d4 d5 d6 d7 : Nat) (g0 : d0 < 10) (g1 : d1 < 10) (g2 : d2 < 10) (g3 : d3 < 10) (g4 : d4 < 10) (g5 : d5 < 10) (g6 : d6 < 10) (_g7 : d7 < 10) :
    (d0 + d2 * 65536 + d4 * 4294967296 + d6 * 281474976710656) ||| (((10 * d0 + d1) + (10 * d2 + d3) * 65536 + (10 * d4 + d5) * 4294967296 + (10 * d6 + d7) * 281474976710656) - 10 * (d0 + d2 * 65536 + d4 * 4294967296 + d6 * 281474976710656)) * 256 = word d0 d1 d2 d3 d4 d5 d6 d7 := by
  have e1 : d0 + d2 * 65536 + d4 * 4294967296 + d6 * 281474976710656 = 2 ^ 16 * (2 ^ 16 * (2 ^ 16 * d6 + d4) + d2) + d0 := by omega
  have e2 : (((10 * d0 + d1) + (10 * d2 + d3) * 65536 + (10 * d4 + d5) * 4294967296 + (10 * d6 + d7) * 281474976710656) - 10 * (d0 + d2 * 65536 + d4 * 4294967296 + d6 * 281474976710656)) * 256 = 2 ^ 16 * (2 ^ 16 * (2 ^ 16 * (2 ^ 8 * d7) + 2 ^ 8 * d5) + 2 ^ 8 * d3) + 2 ^ 8 * d1 := by omega
  rw [e2, e1, or_split 16 _ _ _ _ (by omega) (by omega), or_split 16 _ _ _ _ (by omega) (by omega), or_split 16 _ _ _ _ (by omega) (by omega), or_low 8 _ _ (by omega), or_low 8 _ _ (by omega), or_low 8 _ _ (by omega), or_low 8 _ _ (by omega)]
  unfold word
  omega

/-! ### The digits of n below 10^8 -/
def dk (n k : Nat) : Nat := n / 10 ^ (7 - k) % 10
def wordOf (n : Nat) : Nat := word (dk n 0) (dk n 1) (dk n 2) (dk n 3) (dk n 4) (dk n 5) (dk n 6) (dk n 7)
/-- The word with '0' added to each byte. -/
def textOf (n : Nat) : Nat := wordOf n + 3472328296227680304
theorem dk_lt (n k : Nat) : dk n k < 10 := Nat.mod_lt _ (by decide)

theorem dk0 (n : Nat) : dk n 0 = n / 10000000 % 10 := rfl
theorem dk1 (n : Nat) : dk n 1 = n / 1000000 % 10 := rfl
theorem dk2 (n : Nat) : dk n 2 = n / 100000 % 10 := rfl
theorem dk3 (n : Nat) : dk n 3 = n / 10000 % 10 := rfl
theorem dk4 (n : Nat) : dk n 4 = n / 1000 % 10 := rfl
theorem dk5 (n : Nat) : dk n 5 = n / 100 % 10 := rfl
theorem dk6 (n : Nat) : dk n 6 = n / 10 % 10 := rfl
theorem dk7 (n : Nat) : dk n 7 = n % 10 := by unfold dk; simp

theorem textOf_lt (n : Nat) : textOf n < 18446744073709551616 := by
  have h0 := dk_lt n 0; have h1 := dk_lt n 1; have h2 := dk_lt n 2; have h3 := dk_lt n 3; have h4 := dk_lt n 4; have h5 := dk_lt n 5; have h6 := dk_lt n 6; have h7 := dk_lt n 7
  unfold textOf wordOf word
  omega

theorem text_byte (n k : Nat) (hk : k < 8) : textOf n / 256 ^ k % 256 = dk n k + 48 := by
  have h0 := dk_lt n 0; have h1 := dk_lt n 1; have h2 := dk_lt n 2; have h3 := dk_lt n 3; have h4 := dk_lt n 4; have h5 := dk_lt n 5; have h6 := dk_lt n 6; have h7 := dk_lt n 7
  unfold textOf wordOf word
  have hk8 : k = 0 ∨ k = 1 ∨ k = 2 ∨ k = 3 ∨ k = 4 ∨ k = 5 ∨ k = 6 ∨ k = 7 := by omega
  generalize g0 : dk n 0 = e0 at *
  generalize g1 : dk n 1 = e1 at *
  generalize g2 : dk n 2 = e2 at *
  generalize g3 : dk n 3 = e3 at *
  generalize g4 : dk n 4 = e4 at *
  generalize g5 : dk n 5 = e5 at *
  generalize g6 : dk n 6 = e6 at *
  generalize g7 : dk n 7 = e7 at *
  rcases hk8 with rfl | rfl | rfl | rfl | rfl | rfl | rfl | rfl
  · have e : (256 : Nat) ^ 0 = 1 := by decide
    rw [e, g0]
    omega
  · have e : (256 : Nat) ^ 1 = 256 := by decide
    rw [e, g1]
    omega
  · have e : (256 : Nat) ^ 2 = 65536 := by decide
    rw [e, g2]
    omega
  · have e : (256 : Nat) ^ 3 = 16777216 := by decide
    rw [e, g3]
    omega
  · have e : (256 : Nat) ^ 4 = 4294967296 := by decide
    rw [e, g4]
    omega
  · have e : (256 : Nat) ^ 5 = 1099511627776 := by decide
    rw [e, g5]
    omega
  · have e : (256 : Nat) ^ 6 = 281474976710656 := by decide
    rw [e, g6]
    omega
  · have e : (256 : Nat) ^ 7 = 72057594037927936 := by decide
    rw [e, g7]
    omega

/-! ### Trailing zeros -/
theorem ctzFrom_mul (f y : Nat) : ∀ k : Nat, Lib.ctzFrom (f + k) (2 ^ k * y) = k + Lib.ctzFrom f y
  | 0 => by simp
  | k + 1 => by
    have e : f + (k + 1) = (f + k) + 1 := by omega
    have e2 : 2 ^ (k + 1) * y = 2 * (2 ^ k * y) := by rw [Nat.pow_succ, Nat.mul_assoc, Nat.mul_left_comm]
    rw [e, e2, Lib.ctzFrom, if_neg (by omega), show 2 * (2 ^ k * y) / 2 = 2 ^ k * y by omega, ctzFrom_mul f y k]
    omega
theorem ctzFrom_le : ∀ (k f y : Nat), y % 2 ^ (k + 1) ≠ 0 → Lib.ctzFrom f y ≤ k
  | _, 0, _, _ => by simp [Lib.ctzFrom]
  | 0, f + 1, y, h => by
    rw [Lib.ctzFrom, if_pos (by simpa using h)]
    exact Nat.le_refl _
  | k + 1, f + 1, y, h => by
    rw [Lib.ctzFrom]
    split
    · omega
    · rename_i hodd
      have h2 : y / 2 % 2 ^ (k + 1) ≠ 0 := by
        intro h0
        obtain ⟨q, hq⟩ := Nat.dvd_of_mod_eq_zero h0
        apply h
        have e : y = 2 ^ (k + 1 + 1) * q := by
          rw [Nat.pow_succ _ (k + 1), Nat.mul_assoc, Nat.mul_left_comm, ← hq]
          omega
        rw [e]
        exact Nat.mul_mod_right _ _
      have := ctzFrom_le k f (y / 2) h2
      omega
/-- Where the lowest z bytes are 0 and the next is not. -/
theorem ctz_byte (z y : Nat) (hz : z ≤ 6) (hy : y % 256 ≠ 0) : Lib.ctz 64 (2 ^ (8 * z) * y) / 8 = z ∧ Lib.ctz 64 (2 ^ (8 * z) * y) < 64 := by
  have hne : 2 ^ (8 * z) * y ≠ 0 := by
    have : y ≠ 0 := by rintro rfl; simp at hy
    exact Nat.mul_ne_zero (by have := Nat.two_pow_pos (8 * z); omega) this
  obtain ⟨f, hf⟩ : ∃ f, 64 = f + 8 * z := ⟨64 - 8 * z, by omega⟩
  have e : Lib.ctz 64 (2 ^ (8 * z) * y) = 8 * z + Lib.ctzFrom f y := by
    unfold Lib.ctz
    rw [if_neg hne]
    conv => lhs; rw [hf]
    exact ctzFrom_mul f y (8 * z)
  have hle := ctzFrom_le 7 f y hy
  omega


/-! ### How many digits; the leading zeros -/
theorem digits_cases (n : Nat) (h1 : 10 ≤ n) (h2 : n < 100000000) :
    ∃ z y, z ≤ 6 ∧ Lib.nDigits n + z = 8 ∧ wordOf n = 2 ^ (8 * z) * y ∧ y % 256 ≠ 0 := by
  have hc : n < 100 ∨ (100 ≤ n ∧ n < 1000) ∨ (1000 ≤ n ∧ n < 10000) ∨ (10000 ≤ n ∧ n < 100000) ∨ (100000 ≤ n ∧ n < 1000000) ∨ (1000000 ≤ n ∧ n < 10000000) ∨ 10000000 ≤ n := by omega
  unfold wordOf word
  rw [dk0, dk1, dk2, dk3, dk4, dk5, dk6, dk7]
  rcases hc with h | ⟨h, h'⟩ | ⟨h, h'⟩ | ⟨h, h'⟩ | ⟨h, h'⟩ | ⟨h, h'⟩ | h
  · refine ⟨6, n / 10 % 10 + n % 10 * 256, by omega, ?_, ?_, ?_⟩
    · rw [Lib.nDigits_unique 1 n h1 h]
    · have e : (2 : Nat) ^ (8 * 6) = 281474976710656 := by decide
      rw [e]
      omega
    · have hl : n / 10 % 10 ≠ 0 := by omega
      have hl2 : n / 10 % 10 < 10 := by omega
      generalize n / 10 % 10 = e6 at *
      generalize n % 10 = e7 at *
      omega
  · refine ⟨5, n / 100 % 10 + n / 10 % 10 * 256 + n % 10 * 65536, by omega, ?_, ?_, ?_⟩
    · rw [Lib.nDigits_unique 2 n h h']
    · have e : (2 : Nat) ^ (8 * 5) = 1099511627776 := by decide
      rw [e]
      omega
    · have hl : n / 100 % 10 ≠ 0 := by omega
      have hl2 : n / 100 % 10 < 10 := by omega
      generalize n / 100 % 10 = e5 at *
      generalize n / 10 % 10 = e6 at *
      generalize n % 10 = e7 at *
      omega
  · refine ⟨4, n / 1000 % 10 + n / 100 % 10 * 256 + n / 10 % 10 * 65536 + n % 10 * 16777216, by omega, ?_, ?_, ?_⟩
    · rw [Lib.nDigits_unique 3 n h h']
    · have e : (2 : Nat) ^ (8 * 4) = 4294967296 := by decide
      rw [e]
      omega
    · have hl : n / 1000 % 10 ≠ 0 := by omega
      have hl2 : n / 1000 % 10 < 10 := by omega
      generalize n / 1000 % 10 = e4 at *
      generalize n / 100 % 10 = e5 at *
      generalize n / 10 % 10 = e6 at *
      generalize n % 10 = e7 at *
      omega
  · refine ⟨3, n / 10000 % 10 + n / 1000 % 10 * 256 + n / 100 % 10 * 65536 + n / 10 % 10 * 16777216 + n % 10 * 4294967296, by omega, ?_, ?_, ?_⟩
    · rw [Lib.nDigits_unique 4 n h h']
    · have e : (2 : Nat) ^ (8 * 3) = 16777216 := by decide
      rw [e]
      omega
    · have hl : n / 10000 % 10 ≠ 0 := by omega
      have hl2 : n / 10000 % 10 < 10 := by omega
      generalize n / 10000 % 10 = e3 at *
      generalize n / 1000 % 10 = e4 at *
      generalize n / 100 % 10 = e5 at *
      generalize n / 10 % 10 = e6 at *
      generalize n % 10 = e7 at *
      omega
  · refine ⟨2, n / 100000 % 10 + n / 10000 % 10 * 256 + n / 1000 % 10 * 65536 + n / 100 % 10 * 16777216 + n / 10 % 10 * 4294967296 + n % 10 * 1099511627776, by omega, ?_, ?_, ?_⟩
    · rw [Lib.nDigits_unique 5 n h h']
    · have e : (2 : Nat) ^ (8 * 2) = 65536 := by decide
      rw [e]
      omega
    · have hl : n / 100000 % 10 ≠ 0 := by omega
      have hl2 : n / 100000 % 10 < 10 := by omega
      generalize n / 100000 % 10 = e2 at *
      generalize n / 10000 % 10 = e3 at *
      generalize n / 1000 % 10 = e4 at *
      generalize n / 100 % 10 = e5 at *
      generalize n / 10 % 10 = e6 at *
      generalize n % 10 = e7 at *
      omega
  · refine ⟨1, n / 1000000 % 10 + n / 100000 % 10 * 256 + n / 10000 % 10 * 65536 + n / 1000 % 10 * 16777216 + n / 100 % 10 * 4294967296 + n / 10 % 10 * 1099511627776 + n % 10 * 281474976710656, by omega, ?_, ?_, ?_⟩
    · rw [Lib.nDigits_unique 6 n h h']
    · have e : (2 : Nat) ^ (8 * 1) = 256 := by decide
      rw [e]
      omega
    · have hl : n / 1000000 % 10 ≠ 0 := by omega
      have hl2 : n / 1000000 % 10 < 10 := by omega
      generalize n / 1000000 % 10 = e1 at *
      generalize n / 100000 % 10 = e2 at *
      generalize n / 10000 % 10 = e3 at *
      generalize n / 1000 % 10 = e4 at *
      generalize n / 100 % 10 = e5 at *
      generalize n / 10 % 10 = e6 at *
      generalize n % 10 = e7 at *
      omega
  · refine ⟨0, n / 10000000 % 10 + n / 1000000 % 10 * 256 + n / 100000 % 10 * 65536 + n / 10000 % 10 * 16777216 + n / 1000 % 10 * 4294967296 + n / 100 % 10 * 1099511627776 + n / 10 % 10 * 281474976710656 + n % 10 * 72057594037927936, by omega, ?_, ?_, ?_⟩
    · rw [Lib.nDigits_unique 7 n h h2]
    · have e : (2 : Nat) ^ (8 * 0) = 1 := by decide
      rw [e]
      omega
    · have hl : n / 10000000 % 10 ≠ 0 := by omega
      have hl2 : n / 10000000 % 10 < 10 := by omega
      generalize n / 10000000 % 10 = e0 at *
      generalize n / 1000000 % 10 = e1 at *
      generalize n / 100000 % 10 = e2 at *
      generalize n / 10000 % 10 = e3 at *
      generalize n / 1000 % 10 = e4 at *
      generalize n / 100 % 10 = e5 at *
      generalize n / 10 % 10 = e6 at *
      generalize n % 10 = e7 at *
      omega

theorem leBytes_get : ∀ (k v t : Nat), t < k → (Lib.leBytes k v)[t]? = some (v / 256 ^ t % 256).toUInt8
  | 0, _, _, h => by omega
  | k + 1, v, 0, _ => by simp [Lib.leBytes]
  | k + 1, v, t + 1, h => by
    have ih := leBytes_get k (v / 256) t (by omega)
    have e : v / 256 / 256 ^ t = v / 256 ^ (t + 1) := by rw [Nat.div_div_eq_div_mul, Nat.pow_succ, Nat.mul_comm]
    rw [e] at ih
    simpa [Lib.leBytes] using ih

/-- THE BYTES THAT ARE KEPT ARE THE NUMERAL. -/
theorem bytes_eq (n z : Nat) (hz : z ≤ 6) (hd : Lib.nDigits n + z = 8) : (Lib.leBytes 8 (textOf n / 2 ^ (8 * z))).take (8 - z) = Lib.decDigits n := by
  have hnd : Lib.nDigits n = 8 - z := by omega
  apply List.ext_getElem?
  intro t
  by_cases ht : t < 8 - z
  · rw [List.getElem?_take, if_pos ht, leBytes_get 8 _ t (by omega), Lib.decDigits_eq, hnd]
    have e : textOf n / 2 ^ (8 * z) / 256 ^ t % 256 = dk n (z + t) + 48 := by
      rw [← text_byte n (z + t) (by omega), Nat.div_div_eq_div_mul, Nat.pow_add, show (256 : Nat) ^ z = 2 ^ (8 * z) by rw [show (256 : Nat) = 2 ^ 8 from rfl, ← Nat.pow_mul]]
    rw [e]
    have e2 : dk n (z + t) = n / 10 ^ (8 - z - 1 - t) % 10 := by
      unfold dk
      rw [show 7 - (z + t) = 8 - z - 1 - t by omega]
    rw [e2]
    simp only [List.getElem?_map, List.getElem?_range ht, Option.map_some, Lib.dg]
    rw [Nat.add_comm]
  · rw [List.getElem?_eq_none (by rw [List.length_take, Lib.leBytes_length]; omega), List.getElem?_eq_none (by rw [Lib.decDigits_length]; omega)]

/-! ### The steps in the model's words -/
def x1 (n : Nat) : Nat := (100 * (10 * dk n 0 + dk n 1) + (10 * dk n 2 + dk n 3)) + (100 * (10 * dk n 4 + dk n 5) + (10 * dk n 6 + dk n 7)) * 4294967296
def q1 (n : Nat) : Nat := (10 * dk n 0 + dk n 1) + (10 * dk n 4 + dk n 5) * 4294967296
def x2 (n : Nat) : Nat := (10 * dk n 0 + dk n 1) + (10 * dk n 2 + dk n 3) * 65536 + (10 * dk n 4 + dk n 5) * 4294967296 + (10 * dk n 6 + dk n 7) * 281474976710656
def q2 (n : Nat) : Nat := dk n 0 + dk n 2 * 65536 + dk n 4 * 4294967296 + dk n 6 * 281474976710656

theorem or_nat (a b : Nat) (ha : a < 18446744073709551616) (hb : b < 18446744073709551616) : bits .or .u64 (a : Int) (b : Int) = ((a ||| b : Nat) : Int) := (bits_nat .u64 64 (by decide) wraps_u64 a b ha hb).2
theorem and_nat (a b : Nat) (ha : a < 18446744073709551616) (hb : b < 18446744073709551616) : bits .and .u64 (a : Int) (b : Int) = ((a &&& b : Nat) : Int) := (bits_nat .u64 64 (by decide) wraps_u64 a b ha hb).1

theorem e1 (n : Nat) (h : n < 100000000) : bits .or .u64 ((n : Int) / 10000) (((n : Int) - 10000 * ((n : Int) / 10000)) * 4294967296) = (x1 n : Int) := by
  have c1 : (n : Int) / 10000 = ((n / 10000 : Nat) : Int) := by omega
  have c2 : ((n : Int) - 10000 * ((n : Int) / 10000)) * 4294967296 = ((2 ^ 32 * (n % 10000) : Nat) : Int) := by omega
  rw [c2, c1, or_nat _ _ (by omega) (by omega), or_low 32 _ _ (by omega)]
  unfold x1
  rw [dk0, dk1, dk2, dk3, dk4, dk5, dk6, dk7]
  omega

theorem x1_lt (n : Nat) : x1 n < 42949672960000 := by
  have h0 := dk_lt n 0; have h1 := dk_lt n 1; have h2 := dk_lt n 2; have h3 := dk_lt n 3; have h4 := dk_lt n 4; have h5 := dk_lt n 5; have h6 := dk_lt n 6; have h7 := dk_lt n 7
  unfold x1; omega
theorem q1_lt (n : Nat) : q1 n < 429496729600 ∧ 100 * q1 n ≤ x1 n := by
  have h0 := dk_lt n 0; have h1 := dk_lt n 1; have h2 := dk_lt n 2; have h3 := dk_lt n 3; have h4 := dk_lt n 4; have h5 := dk_lt n 5; have h6 := dk_lt n 6; have h7 := dk_lt n 7
  unfold q1 x1; omega
theorem x2_lt (n : Nat) : x2 n < 28147497671065600 ∧ (x1 n - 100 * q1 n) * 65536 < 18446744073709551616 := by
  have h0 := dk_lt n 0; have h1 := dk_lt n 1; have h2 := dk_lt n 2; have h3 := dk_lt n 3; have h4 := dk_lt n 4; have h5 := dk_lt n 5; have h6 := dk_lt n 6; have h7 := dk_lt n 7
  unfold x2 x1 q1; omega
theorem q2_lt (n : Nat) : q2 n < 2814749767106560 ∧ 10 * q2 n ≤ x2 n ∧ (x2 n - 10 * q2 n) * 256 < 18446744073709551616 := by
  have h0 := dk_lt n 0; have h1 := dk_lt n 1; have h2 := dk_lt n 2; have h3 := dk_lt n 3; have h4 := dk_lt n 4; have h5 := dk_lt n 5; have h6 := dk_lt n 6; have h7 := dk_lt n 7
  unfold q2 x2; omega

theorem e2 (n : Nat) : bits .and .u64 (IntKind.u64.wrap ((x1 n : Int) * 10486) / 1048576) 545460846719 = (q1 n : Int) := by
  have h0 := dk_lt n 0; have h1 := dk_lt n 1; have h2 := dk_lt n 2; have h3 := dk_lt n 3; have h4 := dk_lt n 4; have h5 := dk_lt n 5; have h6 := dk_lt n 6; have h7 := dk_lt n 7
  have hx := x1_lt n
  rw [u64_wrap_id _ (by omega) (by omega)]
  have c1 : (x1 n : Int) * 10486 / 1048576 = ((x1 n * 10486 / 1048576 : Nat) : Int) := by omega
  have hA := and_nat (x1 n * 10486 / 1048576) 545460846719 (by omega) (by decide)
  rw [c1]
  refine hA.trans ?_
  have hq : x1 n * 10486 / 1048576 &&& 545460846719 = q1 n := lane_q1 _ _ _ _ (by omega) (by omega) (by omega) (by omega)
  rw [hq]

theorem e3 (n : Nat) : bits .or .u64 (q1 n : Int) (IntKind.u64.wrap (IntKind.u64.wrap ((x1 n : Int) - IntKind.u64.wrap (100 * (q1 n : Int))) * 65536)) = (x2 n : Int) := by
  have h0 := dk_lt n 0; have h1 := dk_lt n 1; have h2 := dk_lt n 2; have h3 := dk_lt n 3; have h4 := dk_lt n 4; have h5 := dk_lt n 5; have h6 := dk_lt n 6; have h7 := dk_lt n 7
  have hx := x1_lt n
  have hq := q1_lt n
  have hy := x2_lt n
  rw [u64_wrap_id (100 * (q1 n : Int)) (by omega) (by omega), u64_wrap_id ((x1 n : Int) - 100 * (q1 n : Int)) (by omega) (by omega), u64_wrap_id _ (by omega) (by omega)]
  have c1 : ((x1 n : Int) - 100 * (q1 n : Int)) * 65536 = (((x1 n - 100 * q1 n) * 65536 : Nat) : Int) := by omega
  rw [c1, or_nat _ _ (by omega) hy.2]
  have hz : q1 n ||| (x1 n - 100 * q1 n) * 65536 = x2 n := lane_x2 _ _ _ _ (by omega) (by omega) (by omega) (by omega)
  rw [hz]

theorem e4 (n : Nat) : bits .and .u64 (IntKind.u64.wrap ((x2 n : Int) * 103) / 1024) 4222189076152335 = (q2 n : Int) := by
  have hx := (x2_lt n).1
  rw [u64_wrap_id _ (by omega) (by omega)]
  have c1 : (x2 n : Int) * 103 / 1024 = ((x2 n * 103 / 1024 : Nat) : Int) := by omega
  have hA := and_nat (x2 n * 103 / 1024) 4222189076152335 (by omega) (by decide)
  rw [c1]
  refine hA.trans ?_
  have hq : x2 n * 103 / 1024 &&& 4222189076152335 = q2 n := lane_q2 _ _ _ _ _ _ _ _ (dk_lt n 0) (dk_lt n 1) (dk_lt n 2) (dk_lt n 3) (dk_lt n 4) (dk_lt n 5) (dk_lt n 6) (dk_lt n 7)
  rw [hq]

theorem e5 (n : Nat) : bits .or .u64 (q2 n : Int) (IntKind.u64.wrap (IntKind.u64.wrap ((x2 n : Int) - IntKind.u64.wrap (10 * (q2 n : Int))) * 256)) = (wordOf n : Int) := by
  have hx := (x2_lt n).1
  have hq := q2_lt n
  rw [u64_wrap_id (10 * (q2 n : Int)) (by omega) (by omega), u64_wrap_id ((x2 n : Int) - 10 * (q2 n : Int)) (by omega) (by omega), u64_wrap_id _ (by omega) (by omega)]
  have c1 : ((x2 n : Int) - 10 * (q2 n : Int)) * 256 = (((x2 n - 10 * q2 n) * 256 : Nat) : Int) := by omega
  rw [c1, or_nat _ _ (by omega) hq.2.2]
  have hz : q2 n ||| (x2 n - 10 * q2 n) * 256 = wordOf n := lane_x3 _ _ _ _ _ _ _ _ (dk_lt n 0) (dk_lt n 1) (dk_lt n 2) (dk_lt n 3) (dk_lt n 4) (dk_lt n 5) (dk_lt n 6) (dk_lt n 7)
  rw [hz]

set_option maxRecDepth 100000 in
theorem andNot_fin : ∀ t : Fin 64, bits .andNot .i64 ((t.val : Nat) : Int) 7 = ((8 * (t.val / 8) : Nat) : Int) := by decide +kernel
theorem andNot7 (t : Nat) (h : t < 64) : bits .andNot .i64 (t : Int) 7 = ((8 * (t / 8) : Nat) : Int) := andNot_fin ⟨t, h⟩

end Go.Proofs.Qxb6609332aDoor
