/-
  SEAT b6609332aD: the walk of the law FnAppendIndexWritesBracketedDecimal.
-/
import Derived.Test.Qxb6609332aDoorW7
namespace Go.Proofs.Qxb6609332aDoor
open Go.RowKit

theorem rd_none {w : World} {ao : Option Addr} {len cap : Nat} {zs : List Int} (h : Rd w ao len zs) (hc : ao = none → cap = 0) : ao = none → len = 0 ∧ cap = 0 := by
  rintro rfl
  refine ⟨?_, hc rfl⟩
  rcases Nat.eq_zero_or_pos len with h0 | h0
  · exact h0
  · obtain ⟨b, off, e, _⟩ := h.cells h0
    cases e

theorem rd_one (w : World) (u : Int) : Rd (w.alloc (.cells #[.int .u8 u] 5)) (some ⟨w.heap.size, 0, none⟩) 1 [u] :=
  ⟨rfl, fun _ => ⟨w.heap.size, 0, rfl, fun j hj => by
    obtain rfl : j = 0 := by omega
    simp⟩⟩

theorem bz_idx (n : Nat) : bz (idx n) = [91] ++ (bz (Lib.decDigits n) ++ [93]) := by simp [bz, idx]

set_option maxHeartbeats 4000000 in
theorem law3 (a0 : Option Addr) (len0 cap0 : Nat) (zs : List Int) (n : Nat) (w : World) (hr : Rd w a0 len0 zs) (hnil : a0 = none → len0 = 0 ∧ cap0 = 0) (hl : len0 ≤ 1048576) (hn : n ≤ 9223372036854775807) (ht : Tabs w.heap.size w) :
    Calls Tryd.prog 3 #[.slice a0 len0 cap0, .int .i64 n] w fun e w' => e = .returned (.bool true) ∧ Below w.heap.size w w' := by
  have hdl := dec_len n hn
  have Hil : Hid ((idx n).length = 1 + (Lib.decDigits n).length + 1) := length_idx n
  go_enter Tryd.func3, Tryd.ntmps3
  go_wp2_with fail
  refine (bytes5 a0 len0 cap0 n w hl).mono ?_
  rintro e wa ⟨rfl, rfl⟩
  go_wp2_with fail
  refine (clone_any a0 len0 cap0 zs wa hr hnil hl).mono ?_
  rintro e w1 ⟨v1, rfl, hown1, hb1⟩
  obtain ⟨ao1, cap1, hv1, hc1, hr1⟩ := own_rd hown1
  subst hv1
  go_wp2_with fail
  refine (clone_any ao1 len0 cap1 zs w1 hr1 (rd_none hr1 hc1) hl).mono ?_
  rintro e w2 ⟨v2, rfl, hown2, hb2⟩
  have ht2 : Tabs w1.heap.size w2 := ((ht.on hb1).up hb1.size).on hb2
  go_wp2_with fail
  refine (index7 hown2 hb2.size (by omega) ht2 hn).mono ?_
  rintro e w3 ⟨v3, rfl, hown3, hb3⟩
  rw [byteCells_bz, ← intCells_append, Hil.out] at hown3
  obtain ⟨ao3, cap3, hv3, _, hr3⟩ := own_rd hown3
  subst hv3
  have hb13 := hb2.trans hb3
  have hr1' := hr1.later hb13
  have hbel3 := hb1.trans (hb13.mono hb1.size)
  clear hown1 hown2 hown3 hr hr1 hb2 hb3 ht ht2 hb13 hb1 hnil hc1
  have hA3 : Below w3.heap.size w3 (w3.alloc (.cells #[.int .u8 91] 5)) := (Below.refl _ _).alloc (Nat.le_refl _) _
  go_wp2_with fail
  refine (cat_walk ao1 (some ⟨w3.heap.size, 0, none⟩) len0 1 cap1 1 zs [91] _ (by omega) (by omega) (hr1'.later hA3) (rd_one w3 91)).mono ?_
  rintro e w4 ⟨v4, rfl, hown4, hb4⟩
  obtain ⟨ao4, cap4, hv4, _, hr4⟩ := own_rd hown4
  subst hv4
  have hb34 := hA3.trans (hb4.mono (by simp))
  clear hown4 hb4 hA3 hr1'
  go_wp2_with fail
  refine (decimal_any n hn w4).mono ?_
  rintro e w5 ⟨v5, rfl, hown5, hb5⟩
  rw [byteCells_bz] at hown5
  obtain ⟨ao5, cap5, hv5, _, hr5⟩ := own_rd hown5
  subst hv5
  have hr4' := hr4.later hb5
  have hb35 := hb34.trans (hb5.mono hb34.size)
  clear hown5 hr4 hb34 hb5
  have hA5 : Below w5.heap.size w5 (w5.alloc (.cells #[.int .u8 93] 5)) := (Below.refl _ _).alloc (Nat.le_refl _) _
  go_wp2_with fail
  refine (cat_walk ao5 (some ⟨w5.heap.size, 0, none⟩) (Lib.decDigits n).length 1 cap5 1 (bz (Lib.decDigits n)) [93] _ (by omega) (by omega) (hr5.later hA5) (rd_one w5 93)).mono ?_
  rintro e w6 ⟨v6, rfl, hown6, hb6⟩
  obtain ⟨ao6, cap6, hv6, _, hr6⟩ := own_rd hown6
  subst hv6
  have hb56 := hA5.trans (hb6.mono (by simp))
  have hr4'' := hr4'.later hb56
  have hb36 := hb35.trans (hb56.mono hb35.size)
  clear hown6 hb6 hA5 hr5 hr4' hb56 hb35
  go_wp2_with fail
  refine (cat_walk ao4 ao6 (len0 + 1) ((Lib.decDigits n).length + 1) cap4 cap6 (zs ++ [91]) (bz (Lib.decDigits n) ++ [93]) w6 (by omega) (by omega) hr4'' hr6).mono ?_
  rintro e w7 ⟨v7, rfl, hown7, hb7⟩
  have el : len0 + 1 + ((Lib.decDigits n).length + 1) = len0 + (1 + (Lib.decDigits n).length + 1) := by omega
  have ez : (zs ++ [91]) ++ (bz (Lib.decDigits n) ++ [93]) = zs ++ bz (idx n) := by rw [bz_idx]; simp
  rw [el, ez] at hown7
  obtain ⟨ao7, cap7, hv7, _, hr7⟩ := own_rd hown7
  subst hv7
  have hb37 := hb36.trans (hb7.mono hb36.size)
  have hr3' := hr3.later hb37
  have hbel7 := hbel3.trans (hb37.mono hbel3.size)
  clear hown7 hb7 hr4'' hr6 hb36 hr3 hbel3 el ez
  go_wp2_with fail
  refine (same_walk ao3 ao7 _ cap3 cap7 (zs ++ bz (idx n)) w7 (by omega) hr3' hr7).mono ?_
  rintro e w8 ⟨rfl, q, rfl⟩
  go_wp2
  go_ret
  exact ⟨rfl, below_drewN hbel7 q⟩

set_option maxHeartbeats 400000 in
theorem law3_long (a0 : Option Addr) (len0 cap0 : Nat) (i : Int) (w : World) (hl : 1048576 < len0) :
    Calls Tryd.prog 3 #[.slice a0 len0 cap0, .int .i64 i] w fun e w' => e = .returned (.bool true) ∧ w' = w := by
  go_enter Tryd.func3, Tryd.ntmps3
  go_wp2_with fail
  refine (bytes5_no a0 len0 cap0 i w hl).mono ?_
  rintro e wa ⟨rfl, rfl⟩
  go_wp2
  go_ret
  exact ⟨rfl, rfl⟩

set_option maxHeartbeats 400000 in
theorem law3_neg (a0 : Option Addr) (len0 cap0 : Nat) (i : Int) (w : World) (hl : len0 ≤ 1048576) (hi : i < 0) :
    Calls Tryd.prog 3 #[.slice a0 len0 cap0, .int .i64 i] w fun e w' => e = .returned (.bool true) ∧ w' = w := by
  go_enter Tryd.func3, Tryd.ntmps3
  go_wp2_with fail
  refine (bytes5 a0 len0 cap0 i w hl).mono ?_
  rintro e wa ⟨rfl, rfl⟩
  go_wp2
  go_ret
  exact ⟨rfl, rfl⟩

end Go.Proofs.Qxb6609332aDoor
