/-
  SEAT b6609332aD: the walks of appendIndex, ZZappendIndex.
-/
import Derived.Test.Qxb6609332aDoorW2
namespace Go.Proofs.Qxb6609332aDoor
open Go.RowKit

theorem refuse (n : Nat) (w : World) : Calls Tryd.prog 15 #[.int .i64 n] w fun e w' => e = .returned (.tuple #[]) ∧ w' = w := by
  go_enter Tryd.func15, Tryd.ntmps15
  go_wp2
  go_end0
  exact ⟨rfl, rfl⟩

set_option maxHeartbeats 2000000 in
theorem index14 {w : World} {B len n : Nat} {sv : Value} {xs : List Value} (hown : w.ownsRow B 5 1 sv len xs) (hBw : B ≤ w.heap.size) (hlim : len + 40 ≤ 140737488355328) (ht : Tabs B w) (hn : n ≤ 9223372036854775807) :
    Calls Tryd.prog 14 #[sv, .int .i64 n] w fun e w' => ∃ v', e = .returned v' ∧ w'.ownsRow B 5 1 v' (len + (idx n).length) (xs ++ Lib.byteCells (idx n)) ∧ Below B w w' := by
  have hdl := dec_len n hn
  rw [byteCells_idx, length_idx]
  go_enter Tryd.func14, Tryd.ntmps14
  go_wp2_with fail
  refine (refuse n w).mono ?_
  rintro e w0 ⟨rfl, rfl⟩
  go_wp2_with (at_builtin; refine wpList_app1 _ rfl _ _ rfl rfl (hown.alloc _) w0 ((Below.refl _ _).alloc hBw _) hBw ⟨w0.heap.size, 0, none⟩ 1 (Value.int .u8 91) rfl (cell_new _ _ _) rfl (by omega) ?_)
  intro v1 w1 hown1 hb1
  go_wp2_with fail
  refine (dec_any hown1 (by omega) (Nat.le_trans hBw hb1.size) (by omega) (ht.on hb1) hn).mono ?_
  rintro e w2 ⟨v2, rfl, hown2, hb2⟩
  have hb12 := hb1.trans hb2
  go_wp2_with (at_builtin; refine wpList_app1 _ rfl _ _ rfl rfl (hown2.alloc _) w0 (hb12.alloc (Nat.le_trans hBw hb12.size) _) hBw ⟨w2.heap.size, 0, none⟩ 1 (Value.int .u8 93) rfl (cell_new _ _ _) rfl (by omega) ?_)
  intro v3 w3 hown3 hb3
  go_wp2
  go_ret
  refine ⟨v3, rfl, ?_, hb3⟩
  simp only [Nat.add_assoc] at hown3 ⊢
  exact hown3

set_option maxHeartbeats 2000000 in
theorem index7 {w : World} {B len n : Nat} {sv : Value} {xs : List Value} (hown : w.ownsRow B 5 1 sv len xs) (hBw : B ≤ w.heap.size) (hlim : len + 40 ≤ 140737488355328) (ht : Tabs B w) (hn : n ≤ 9223372036854775807) :
    Calls Tryd.prog 7 #[sv, .int .i64 n] w fun e w' => ∃ v', e = .returned v' ∧ w'.ownsRow B 5 1 v' (len + (idx n).length) (xs ++ Lib.byteCells (idx n)) ∧ Below B w w' := by
  go_enter Tryd.func7, Tryd.ntmps7
  go_wp2_with fail
  refine (index14 hown hBw hlim ht hn).mono ?_
  rintro e w1 ⟨v1, rfl, hown1, hb1⟩
  go_wp2
  go_ret
  exact ⟨v1, rfl, hown1, hb1⟩

end Go.Proofs.Qxb6609332aDoor
