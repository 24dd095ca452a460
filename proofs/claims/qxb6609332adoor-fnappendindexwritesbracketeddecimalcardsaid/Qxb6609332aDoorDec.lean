/-
  PLAIN LAWS of seat b6609332aD: decimal numerals read back, and their order; no Go in sight.
-/
import Derived.Lib.ItoaNum
namespace Go.Proofs.Qxb6609332aDoor

theorem pow_le_nDigits (n : Nat) (h : 1 ≤ n) : 10 ^ (Lib.nDigits n - 1) ≤ n := by
  induction n using Nat.strongRecOn with
  | _ n ih =>
    by_cases h10 : n < 10
    · rw [Lib.nDigits_small h10]; simpa using h
    · have := ih (n / 10) (by omega) (by omega)
      have hp := Lib.nDigits_pos (n / 10)
      rw [Lib.nDigits_big h10, show Lib.nDigits (n / 10) + 1 - 1 = (Lib.nDigits (n / 10) - 1) + 1 by omega, Nat.pow_succ]
      omega

theorem nDigits_lt {i j : Nat} (h : Lib.nDigits i < Lib.nDigits j) : i < j := by
  have h1 := Lib.lt_pow_nDigits i
  have hp := Lib.nDigits_pos i
  by_cases hj : j = 0
  · subst hj
    rw [Lib.nDigits_small (u := 0) (by omega)] at h
    omega
  · have h2 := pow_le_nDigits j (by omega)
    have h3 : 10 ^ Lib.nDigits i ≤ 10 ^ (Lib.nDigits j - 1) := Nat.pow_le_pow_right (by decide) (by omega)
    omega

/-! ### Reading back: what is gathered behind j digits -/
def gat (n j : Nat) : Nat := n / 10 ^ (Lib.nDigits n - j)
def digAt (n j : Nat) : Nat := n / 10 ^ (Lib.nDigits n - 1 - j) % 10

theorem gat_start (n : Nat) : gat n 0 = 0 := Nat.div_eq_of_lt (by simpa using Lib.lt_pow_nDigits n)
theorem gat_step (n j : Nat) (h : j < Lib.nDigits n) : gat n (j + 1) = gat n j * 10 + digAt n j := by
  unfold gat digAt
  obtain ⟨k, hk⟩ : ∃ k, Lib.nDigits n - j = k + 1 := ⟨Lib.nDigits n - j - 1, by omega⟩
  rw [show Lib.nDigits n - (j + 1) = k by omega, show Lib.nDigits n - 1 - j = k by omega, hk, Nat.pow_succ, ← Nat.div_div_eq_div_mul]
  omega
theorem gat_end (n : Nat) : gat n (Lib.nDigits n) = n := by simp [gat]
theorem gat_le (n j : Nat) : gat n j ≤ n := Nat.div_le_self _ _
theorem digAt_lt (n j : Nat) : digAt n j < 10 := Nat.mod_lt _ (by decide)
/-- No leading zero. -/
theorem first_digit (n : Nat) (h : digAt n 0 = 0) : Lib.nDigits n = 1 := by
  by_cases hn : n < 10
  · exact Lib.nDigits_small hn
  · exfalso
    have h1 := pow_le_nDigits n (by omega)
    have h2 := Lib.lt_pow_nDigits n
    have hp := Lib.nDigits_pos n
    obtain ⟨k, hk⟩ : ∃ k, Lib.nDigits n = k + 1 := ⟨Lib.nDigits n - 1, by omega⟩
    unfold digAt at h
    rw [hk] at h1 h2 h
    simp only [Nat.add_sub_cancel, Nat.sub_zero] at h1 h
    rw [Nat.pow_succ] at h2
    have hd : n / 10 ^ k < 10 := Nat.div_lt_of_lt_mul h2
    have hd2 : 1 ≤ n / 10 ^ k := (Nat.one_le_div_iff (Nat.pow_pos (by decide))).2 h1
    omega

theorem dec_get (n j : Nat) (h : j < Lib.nDigits n) : (Lib.decDigits n)[j]? = some (UInt8.ofNat (48 + digAt n j)) := by
  rw [Lib.decDigits_eq]
  simp only [List.getElem?_map, List.getElem?_range h, Option.map_some, Lib.dg, digAt]

/-! ### The order -/
def cmpN (i j : Nat) : Int := if i < j then -1 else if j < i then 1 else 0
/-- The first place at which two lists of one length part. -/
def lex : List UInt8 → List UInt8 → Int
  | a :: x, b :: y => if a.toNat = b.toNat then lex x y else if a.toNat < b.toNat then -1 else 1
  | _, _ => 0
def shortlex (x y : List UInt8) : Int := if x.length = y.length then lex x y else if x.length < y.length then -1 else 1

theorem lex_snoc : ∀ (x y : List UInt8) (a b : UInt8), x.length = y.length → lex (x ++ [a]) (y ++ [b]) = if lex x y = 0 then cmpN a.toNat b.toNat else lex x y
  | [], [], a, b, _ => by
    simp only [List.nil_append, lex, cmpN]
    split
    · rename_i h; simp [h]
    · rename_i h
      split
      · rfl
      · rename_i h2
        simp only [if_true]
        rw [if_pos (by omega)]
  | c :: x, d :: y, a, b, h => by
    have ih := lex_snoc x y a b (by simpa using h)
    simp only [List.cons_append, lex]
    split
    · exact ih
    · split
      · simp
      · simp
  | [], _ :: _, _, _, h => by simp at h
  | _ :: _, [], _, _, h => by simp at h

theorem digit_nat (k : Nat) (h : k < 10) : (UInt8.ofNat (48 + k)).toNat = 48 + k := by
  rw [UInt8.toNat_ofNat']; omega

theorem dec_big_eq {u : Nat} (h : ¬ u < 10) : Lib.decDigits u = Lib.decDigits (u / 10) ++ [UInt8.ofNat (48 + u % 10)] := by
  conv => lhs; rw [Lib.decDigits]
  rw [dif_neg h]

theorem lex_dec (i : Nat) : ∀ j, Lib.nDigits i = Lib.nDigits j → lex (Lib.decDigits i) (Lib.decDigits j) = cmpN i j := by
  induction i using Nat.strongRecOn with
  | _ i ih =>
    intro j hj
    by_cases hi : i < 10
    · have hj10 : j < 10 := by
        by_cases h : j < 10
        · exact h
        · rw [Lib.nDigits_small hi, Lib.nDigits_big h] at hj
          have := Lib.nDigits_pos (j / 10)
          omega
      rw [Lib.decDigits_one hi, Lib.decDigits_one hj10]
      simp only [lex, digit_nat i hi, digit_nat j hj10, cmpN]
      split
      · rw [if_neg (by omega), if_neg (by omega)]
      · split
        · rw [if_pos (by omega)]
        · rw [if_neg (by omega), if_pos (by omega)]
    · have hj10 : ¬ j < 10 := by
        intro h
        rw [Lib.nDigits_small h, Lib.nDigits_big hi] at hj
        have := Lib.nDigits_pos (i / 10)
        omega
      rw [Lib.nDigits_big hi, Lib.nDigits_big hj10] at hj
      have hlen : (Lib.decDigits (i / 10)).length = (Lib.decDigits (j / 10)).length := by rw [Lib.decDigits_length, Lib.decDigits_length]; omega
      have e := ih (i / 10) (by omega) (j / 10) (by omega)
      rw [dec_big_eq hi, dec_big_eq hj10, lex_snoc _ _ _ _ hlen, e, digit_nat (i % 10) (by omega), digit_nat (j % 10) (by omega)]
      unfold cmpN
      repeat' split
      all_goals first | rfl | omega

/-- What appendIndex appends. -/
def idx (n : Nat) : List UInt8 := 91 :: (Lib.decDigits n ++ [93])

theorem shortlex_idx (i j : Nat) : shortlex (idx i) (idx j) = cmpN i j := by
  unfold shortlex
  have li : (idx i).length = Lib.nDigits i + 2 := by simp [idx, Lib.decDigits_length]
  have lj : (idx j).length = Lib.nDigits j + 2 := by simp [idx, Lib.decDigits_length]
  rw [li, lj]
  by_cases h : Lib.nDigits i = Lib.nDigits j
  · rw [if_pos (by omega)]
    unfold idx
    simp only [lex, if_true]
    rw [lex_snoc _ _ _ _ (by rw [Lib.decDigits_length, Lib.decDigits_length]; exact h), lex_dec i j h]
    unfold cmpN
    repeat' split
    all_goals first | rfl | omega
  · rw [if_neg (by omega)]
    by_cases h2 : Lib.nDigits i < Lib.nDigits j
    · have := nDigits_lt h2
      rw [if_pos (by omega)]
      unfold cmpN
      rw [if_pos this]
    · have := nDigits_lt (i := j) (j := i) (by omega)
      rw [if_neg (by omega)]
      unfold cmpN
      rw [if_neg (by omega), if_pos this]

end Go.Proofs.Qxb6609332aDoor
