/-
  SEAT b6609332aD: the walks of appendDecimal, appendIndex, ZZappendIndex.
-/
import Derived.Test.Qxb6609332aDoorW1
import Derived.Test.Qxb6609332aDoorDec
import Derived.Lib.ItoaLen
import Derived.Lib.ItoaMem
namespace Go.Proofs.Qxb6609332aDoor
open Go.RowKit

theorem byteCells_take (l : List UInt8) (k : Nat) : Lib.byteCells (l.take k) = (Lib.byteCells l).take k := by simp [Lib.byteCells, List.map_take]

set_option maxHeartbeats 2000000 in
theorem dec_mid {w : World} {B len n : Nat} {sv : Value} {xs : List Value} (hown : w.ownsRow B 5 1 sv len xs) (hl : 1 ≤ len) (hBw : B ≤ w.heap.size) (hlim : len + 21 ≤ 140737488355328) (htab : TabAt 1 Lib.deBruijn64tab w) (h1 : 10 ≤ n) (h2 : n < 100000000) :
    Calls Tryd.prog 16 #[sv, .int .i64 n] w fun e w' => ∃ v', e = .returned v' ∧ w'.ownsRow B 5 1 v' (len + (Lib.decDigits n).length) (xs ++ Lib.byteCells (Lib.decDigits n)) ∧ Below B w w' := by
  obtain ⟨z, y, hz, hnd, hw, hy⟩ := digits_cases n h1 h2
  have hct := ctz_byte z y hz hy
  rw [← hw] at hct
  have hne : wordOf n ≠ 0 := by
    rw [hw]
    intro h0
    rcases Nat.mul_eq_zero.1 h0 with h | h
    · have := Nat.two_pow_pos (8 * z); omega
    · rw [h] at hy; simp at hy
  have htl := textOf_lt n
  have hwl : wordOf n < 18446744073709551616 := by unfold textOf at htl; omega
  have han := andNot7 _ hct.2
  rw [hct.1] at han
  have Hbe : Hid ((Lib.leBytes 8 (textOf n / 2 ^ (8 * z))).take (8 - z) = Lib.decDigits n) := bytes_eq n z hz hnd
  have Hnd : Hid ((Lib.decDigits n).length = 8 - z) := by
    have e := Lib.decDigits_length n
    show _ = _
    omega
  have hT : IntKind.u64.wrap ((wordOf n : Int) + 3472328296227680304) / 2 ^ (8 * z) = ((textOf n / 2 ^ (8 * z) : Nat) : Int) := by
    have e : (wordOf n : Int) + 3472328296227680304 = ((textOf n : Nat) : Int) := by unfold textOf; omega
    rw [e, u64_wrap_id _ (by omega) (by omega), Int.natCast_ediv, Int.natCast_pow]
    rfl
  have hX : textOf n / 2 ^ (8 * z) < 18446744073709551616 := Nat.lt_of_le_of_lt (Nat.div_le_self _ _) htl
  generalize textOf n / 2 ^ (8 * z) = X at *
  have hown0 := hown
  obtain ⟨g0, cap0, cur0, hsv, _⟩ := own_open hown hl
  subst hsv
  clear hw hy hct hnd htl hown
  go_enter Tryd.func16, Tryd.ntmps16
  go_wp2_with fail
  rw [e1 n h2, e2, e3, e4, e5]
  refine (tz64 (wordOf n) hwl hne w htab).mono ?_
  rintro e w1 ⟨rfl, rfl⟩
  go_wp2_with fail
  refine (grow_own hown0 hl hBw (by omega)).mono ?_
  rintro e w2 ⟨g, G, rfl, hG, hown2, hb2⟩
  go_wp2_with fail
  have hB2 : B ≤ w2.heap.size := Nat.le_trans hBw hb2.size
  have hP := put_own (w := w2.drew) (v := X) (show w2.drew.ownsRow B 5 1 (.slice (some ⟨g, 0, none⟩) len G) len xs from hown2) hl hG hX hB2
  have hln : (len : Int) < (len : Int) + 8 := by omega
  go_region_with (go_at_call 20; refine (hP _).mono ?_; rintro e w3 ⟨rfl, hb3, hown3⟩)
  all_goals
    go_wp2
    go_ret
    refine ⟨_, rfl, ?_, hb2.drew.trans hb3⟩
    have hfin := hown3 (8 - z) (by omega)
    rw [Hnd.out, ← Hbe.out, byteCells_take, ← Nat.add_sub_assoc (by omega)]
    rw [← Nat.add_sub_assoc (by omega)] at hfin
    exact hfin

theorem cell_new (w : World) (t : TypeId) (u : Value) : (w.alloc (.cells #[u] t)).cell? ⟨w.heap.size, 0, none⟩ = some u := by simp

set_option maxHeartbeats 2000000 in
theorem dec_small {w : World} {B len n : Nat} {sv : Value} {xs : List Value} (hown : w.ownsRow B 5 1 sv len xs) (hBw : B ≤ w.heap.size) (hlim : len + 21 ≤ 140737488355328) (h1 : n < 10) :
    Calls Tryd.prog 16 #[sv, .int .i64 n] w fun e w' => ∃ v', e = .returned v' ∧ w'.ownsRow B 5 1 v' (len + (Lib.decDigits n).length) (xs ++ Lib.byteCells (Lib.decDigits n)) ∧ Below B w w' := by
  have hd : Lib.decDigits n = [UInt8.ofNat (48 + n)] := Lib.decDigits_one h1
  have hb : Lib.byteCells [UInt8.ofNat (48 + n)] = [.int .u8 (48 + (n : Int))] := by
    simp [Lib.byteCells]
    omega
  rw [hd, hb, List.length_singleton]
  clear hd hb
  go_enter Tryd.func16, Tryd.ntmps16
  go_wp2_with (at_builtin; refine wpList_app1 _ rfl _ _ rfl rfl (hown.alloc _) w ((Below.refl _ _).alloc hBw _) hBw ⟨w.heap.size, 0, none⟩ 1 (Value.int .u8 (48 + (n : Int))) rfl (cell_new _ _ _) rfl (by omega) ?_)
  intro v' w1 hown' hb'
  go_wp2
  go_ret
  exact ⟨v', rfl, hown', hb'⟩

set_option maxHeartbeats 2000000 in
theorem dec_big {w : World} {B len n : Nat} {sv : Value} {xs : List Value} (h1 : 100000000 ≤ n) (h2 : n ≤ 9223372036854775807)
    (R : Ending → World → Prop) (hR : Calls Tryd.prog 17 #[sv, .int .i64 n, .int .i64 10] w R) (hsh : ∀ e w', R e w' → ∃ v', e = .returned v' ∧ w'.ownsRow B 5 1 v' (len + (Lib.decDigits n).length) (xs ++ Lib.byteCells (Lib.decDigits n)) ∧ Below B w w') :
    Calls Tryd.prog 16 #[sv, .int .i64 n] w fun e w' => ∃ v', e = .returned v' ∧ w'.ownsRow B 5 1 v' (len + (Lib.decDigits n).length) (xs ++ Lib.byteCells (Lib.decDigits n)) ∧ Below B w w' := by
  go_enter Tryd.func16, Tryd.ntmps16
  go_wp2_with fail
  refine hR.mono ?_
  intro e w1 hr
  obtain ⟨v1, rfl, hown1, hb1⟩ := hsh e w1 hr
  go_wp2
  go_ret
  exact ⟨v1, rfl, hown1, hb1⟩

/-- The listed table of powers of ten, by the row's own word for it. -/
def powName : String := Rows.fnAppendIndexWritesBracketedDecimalRow.named.getD 1 default

/-- THE TABLES, as the row lists them, in the world w and in every world that keeps what lies below B. -/
structure Tabs (B : Nat) (w : World) : Prop where
  pow : Lib.TabBelow Tryd.prog B w powName .u64 Lib.pow10Tab
  bru : ∀ w', Below B w w' → TabAt 1 Lib.deBruijn64tab w'
theorem Tabs.on {B : Nat} {w w1 : World} (h : Tabs B w) (hb : Below B w w1) : Tabs B w1 := ⟨h.pow.on hb, fun w' h' => h.bru w' (hb.trans h')⟩
theorem Tabs.up {B B' : Nat} {w : World} (h : Tabs B w) (hB : B ≤ B') : Tabs B' w := ⟨fun w' h' => h.pow w' (h'.mono hB), fun w' h' => h.bru w' (h'.mono hB)⟩

theorem dec_any {w : World} {B len n : Nat} {sv : Value} {xs : List Value} (hown : w.ownsRow B 5 1 sv len xs) (hl : 1 ≤ len) (hBw : B ≤ w.heap.size) (hlim : len + 21 ≤ 140737488355328) (ht : Tabs B w) (hn : n ≤ 9223372036854775807) :
    Calls Tryd.prog 16 #[sv, .int .i64 n] w fun e w' => ∃ v', e = .returned v' ∧ w'.ownsRow B 5 1 v' (len + (Lib.decDigits n).length) (xs ++ Lib.byteCells (Lib.decDigits n)) ∧ Below B w w' := by
  by_cases h1 : n < 10
  · exact dec_small hown hBw hlim h1
  · by_cases h2 : n < 100000000
    · exact dec_mid hown hl hBw hlim (ht.bru w (Below.refl _ _)) (by omega) h2
    · refine dec_big (by omega) hn _ (show Calls Tryd.prog 17 #[sv, .int .i64 n, .int .i64 10] w _ from Any.strconv_AppendInt_10 Tryd.laysM176 B len n (by omega) (by omega) sv xs w hown hBw hlim ht.pow) ?_
      rintro e w' ⟨v', he, ho, hb, _⟩
      rw [Lib.itoa_nonneg] at ho
      exact ⟨v', he, ho, hb⟩

theorem byteCells_idx (n : Nat) : Lib.byteCells (idx n) = [Value.int .u8 91] ++ (Lib.byteCells (Lib.decDigits n) ++ [Value.int .u8 93]) := by simp [idx, Lib.byteCells]
theorem length_idx (n : Nat) : (idx n).length = 1 + (Lib.decDigits n).length + 1 := by simp [idx]; omega

theorem dec_len (n : Nat) (hn : n ≤ 9223372036854775807) : (Lib.decDigits n).length ≤ 20 := by rw [Lib.decDigits_length]; exact Lib.nDigits_le20 n (by omega)

end Go.Proofs.Qxb6609332aDoor
