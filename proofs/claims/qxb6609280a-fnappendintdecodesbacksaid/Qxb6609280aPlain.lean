/-
  PLAIN LAWS of seat b6609280a: varints; no Go function in sight.
-/
import Derived.Lib.VarintMem
import Derived.Lib.VarintBits
import Derived.Lib.BitFns
namespace Go.Proofs.Qxb6609280a

theorem bitLen_pos (x : Nat) (h0 : x ≠ 0) (h : x < 2 ^ 64) : 1 ≤ Lib.bitLen x := by rw [Lib.bitLen_half x h0 h]; omega

/-- How many bytes a varint takes, by its bits. -/
theorem uvarint_len : ∀ (f x : Nat), x < 128 ^ f → x < 2 ^ 64 → (Lib.uvarint x).length = if Lib.bitLen x = 0 then 1 else (Lib.bitLen x + 6) / 7
  | 0, x, h, _ => by
    obtain rfl : x = 0 := by simpa using h
    rw [Lib.uvarint_small (by omega)]
    decide
  | f + 1, x, h, hx => by
    by_cases h128 : x < 128
    · have hb := Lib.bitLen_le x 7 (by omega) h128
      rw [Lib.uvarint_small h128]
      split
      · rfl
      · show 1 = _
        omega
    · have ih := uvarint_len f (x / 128) (by rw [Nat.pow_succ] at h; exact Nat.div_lt_of_lt_mul (by rw [Nat.mul_comm]; exact h)) (by omega)
      have hs : Lib.bitLen x = 7 + Lib.bitLen (x / 128) := Lib.bitLen_shift 7 x (by omega) hx
      have hp := bitLen_pos (x / 128) (by omega) (by omega)
      rw [Lib.uvarint_big (by omega), List.length_cons, ih, hs, if_neg (by omega), if_neg (by omega)]
      omega

theorem uvarint_len64 (x : Nat) (h : x < 2 ^ 64) : (Lib.uvarint x).length = if Lib.bitLen x = 0 then 1 else (Lib.bitLen x + 6) / 7 :=
  uvarint_len 10 x (Nat.lt_of_lt_of_le h (by decide)) h

/-- The byte that stands first in y's varint. -/
def headOf (y : Nat) : Nat := if y < 128 then y else y % 128 + 128

/-- WHERE THE READER STANDS behind k bytes: 'acc' is what they spelt, 'y' what is left. -/
structure Read (x k acc y : Nat) (pre : List UInt8) : Prop where
  split : Lib.uvarint x = pre ++ Lib.uvarint y
  len : pre.length = k
  sum : x = acc + y * 2 ^ (7 * k)
  low : acc < 2 ^ (7 * k)
  pos : 0 < k → 0 < y

theorem Read.start (x : Nat) : Read x 0 0 x [] := ⟨rfl, rfl, by simp, by simp, by omega⟩

theorem Read.head {x k acc y : Nat} {pre : List UInt8} (h : Read x k acc y pre) : ∃ hk : k < (Lib.uvarint x).length, ((Lib.uvarint x)[k]).toNat = headOf y := by
  have hl := congrArg List.length h.split
  rw [List.length_append, h.len] at hl
  have hp := Lib.uvarint_pos y
  have hk : k < (Lib.uvarint x).length := by omega
  refine ⟨hk, ?_⟩
  have e : (Lib.uvarint x)[k]? = (Lib.uvarint y)[0]? := by
    rw [h.split, List.getElem?_append_right (by rw [h.len]; omega), h.len, Nat.sub_self]
  rw [List.getElem?_eq_getElem hk] at e
  unfold headOf
  by_cases hy : y < 128
  · rw [Lib.uvarint_small (x := y) hy] at e
    rw [if_pos hy]
    simp at e
    rw [e]
    exact Lib.toUInt8_toNat (by omega)
  · rw [Lib.uvarint_big (x := y) (by omega)] at e
    rw [if_neg hy]
    simp only [List.getElem?_cons_zero, Option.some.injEq] at e
    rw [e]
    exact Lib.toUInt8_toNat (by omega)

theorem Read.next {x k acc y : Nat} {pre : List UInt8} (h : Read x k acc y pre) (hy : 128 ≤ y) :
    Read x (k + 1) (acc + y % 128 * 2 ^ (7 * k)) (y / 128) (pre ++ [(y % 128 + 128).toUInt8]) := by
  have e : (2 : Nat) ^ (7 * (k + 1)) = 128 * 2 ^ (7 * k) := by
    rw [Nat.mul_add, Nat.pow_add]; omega
  refine ⟨by rw [h.split, Lib.uvarint_big hy]; simp, by simp [h.len], ?_, ?_, by omega⟩
  · have hs := h.sum
    have e2 : y / 128 * (128 * 2 ^ (7 * k)) + y % 128 * 2 ^ (7 * k) = y * 2 ^ (7 * k) := by
      rw [← Nat.mul_assoc, ← Nat.add_mul]
      congr 1
      omega
    rw [e]
    omega
  · have hl := h.low
    rw [e]
    have h2 : y % 128 * 2 ^ (7 * k) ≤ 127 * 2 ^ (7 * k) := Nat.mul_le_mul_right _ (by omega)
    omega

/-- The last byte: it is the end; what it adds is all of x. -/
theorem Read.last {x k acc y : Nat} {pre : List UInt8} (h : Read x k acc y pre) (hy : y < 128) : (Lib.uvarint x).length = k + 1 := by
  rw [h.split, Lib.uvarint_small hy]
  simp [h.len]

theorem Read.le9 {x k acc y : Nat} {pre : List UInt8} (h : Read x k acc y pre) (hx : x < 2 ^ 64) : k ≤ 9 := by
  have h1 := Lib.uvarint_length64 (x := x) hx
  obtain ⟨hk, _⟩ := h.head
  omega

/-- The tenth byte bears one bit at most. -/
theorem Read.tenth {x acc y : Nat} {pre : List UInt8} (h : Read x 9 acc y pre) (hx : x < 2 ^ 64) : y ≤ 1 := by
  have hs := h.sum
  have e : (2 : Nat) ^ (7 * 9) = 9223372036854775808 := by decide
  rw [e] at hs
  omega

/-- 'x |= uint64(c&0x7f) << shift' in the walk's spelling. -/
theorem or_step (acc c k : Nat) (hc : c < 256) (hlow : acc < 2 ^ (7 * k)) (hsum : acc + c % 128 * 2 ^ (7 * k) < 18446744073709551616) :
    bits .or .u64 (acc : Int) (IntKind.u64.wrap (IntKind.u64.wrap (bits .and .u8 (c : Int) 127) * 2 ^ (7 * k))) = ((acc + c % 128 * 2 ^ (7 * k) : Nat) : Int) := by
  have e1 : ((c : Int) % 128) * 2 ^ (7 * k) = ((c % 128 * 2 ^ (7 * k) : Nat) : Int) := by
    rw [Int.natCast_mul, Int.natCast_pow]; rfl
  rw [u8_and127 _ (by omega) (by omega), u64_wrap_id ((c : Int) % 128) (by omega) (by omega), e1, u64_wrap_id _ (by omega) (by omega)]
  have hlow' : (acc : Int) < 2 ^ (7 * k) := by
    have : ((2 ^ (7 * k) : Nat) : Int) = 2 ^ (7 * k) := by rw [Int.natCast_pow]; rfl
    omega
  have hmod : (((c % 128 * 2 ^ (7 * k) : Nat) : Int)) % 2 ^ (7 * k) = 0 := by
    rw [← e1]; exact Int.mul_emod_left _ _
  rw [bits_join_low .u64 64 (by decide) wraps_u64 (7 * k) _ _ (by omega) hlow' (by omega) (by omega) hmod (by omega)]
  omega

theorem Read.or_last {x k acc y : Nat} {pre : List UInt8} (h : Read x k acc y pre) (hx : x < 18446744073709551616) (hy : y < 128) :
    bits .or .u64 (acc : Int) (IntKind.u64.wrap (IntKind.u64.wrap (bits .and .u8 (y : Int) 127) * 2 ^ (7 * k))) = (x : Int) := by
  have hs := h.sum
  have e : y % 128 = y := by omega
  have e2 : acc + y % 128 * 2 ^ (7 * k) = x := by rw [e]; omega
  rw [or_step acc y k (by omega) h.low (by omega), e2]

theorem Read.or_next {x k acc y c : Nat} {pre : List UInt8} (h : Read x k acc y pre) (hx : x < 18446744073709551616) (hc : c = y % 128 + 128) :
    bits .or .u64 (acc : Int) (IntKind.u64.wrap (IntKind.u64.wrap (bits .and .u8 (c : Int) 127) * 2 ^ (7 * k))) = ((acc + y % 128 * 2 ^ (7 * k) : Nat) : Int) := by
  have hs := h.sum
  have e : c % 128 = y % 128 := by omega
  have h2 : y % 128 * 2 ^ (7 * k) ≤ y * 2 ^ (7 * k) := Nat.mul_le_mul_right _ (Nat.mod_le _ _)
  rw [or_step acc c k (by omega) h.low (by rw [e]; omega), e]

end Go.Proofs.Qxb6609280a
