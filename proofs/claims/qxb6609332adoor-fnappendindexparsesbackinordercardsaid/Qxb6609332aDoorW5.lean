/-
  SEAT b6609332aD: the walk of the law FnAppendIndexParsesBackInOrder.
-/
import Derived.Test.Qxb6609332aDoorW4
import Derived.WalkSmall
namespace Go.Proofs.Qxb6609332aDoor
open Go.RowKit

/-- A row of one's own that holds bytes: where they lie. -/
theorem own_at {w : World} {B n : Nat} {sv : Value} {l : List UInt8} (h : w.ownsRow B 5 1 sv n (Lib.byteCells l)) (hn : 1 ≤ n) :
    ∃ g cap, sv = .slice (some ⟨g, 0, none⟩) n cap ∧ At w g l ∧ g < w.heap.size := by
  have h0 := h
  obtain ⟨g, cap, cur, rfl, _, hg, _⟩ := own_open h hn
  refine ⟨g, cap, rfl, fun j u hj => ?_, (Array.getElem?_eq_some_iff.1 hg).1⟩
  have := h0.cells (g := g) rfl j (.int .u8 (u.toNat : Int)) (by simp [Lib.byteCells, hj])
  rwa [Addr.add_lit, Nat.zero_add] at this

theorem At.later {W w : World} {g : Nat} {l : List UInt8} (h : At W g l) (hg : g < W.heap.size) (hb : Below W.heap.size W w) : At w g l := fun j u hj => by
  rw [hb.cell (p := ⟨g, j, none⟩) hg]
  exact h j u hj

theorem length_idx2 (n : Nat) : (idx n).length = Lib.nDigits n + 2 := by simp [idx, Lib.decDigits_length]

set_option maxHeartbeats 4000000 in
theorem law4 (i j : Nat) (w : World) (hi : i ≤ 9223372036854775807) (hj : j ≤ 9223372036854775807) (ht : Tabs w.heap.size w) :
    Calls Tryd.prog 4 #[.int .i64 i, .int .i64 j] w fun e w' => e = .returned (.bool true) ∧ Below w.heap.size w w' := by
  have hli : Lib.nDigits i ≤ 20 := Lib.nDigits_le20 i (by omega)
  have hlj : Lib.nDigits j ≤ 20 := Lib.nDigits_le20 j (by omega)
  go_enter Tryd.func4, Tryd.ntmps4
  go_wp2_with fail
  refine (index7 (B := w.heap.size) (World.ownsRow_nil w _ 5 1) (Nat.le_refl _) (by decide) ht hi).mono ?_
  rintro e w1 ⟨v1, rfl, hown1, hb1⟩
  have ht1 : Tabs w1.heap.size w1 := (ht.on hb1).up hb1.size
  go_wp2_with fail
  refine (index7 (B := w1.heap.size) (World.ownsRow_nil w1 _ 5 1) (Nat.le_refl _) (by decide) ht1 hj).mono ?_
  rintro e w2 ⟨v2, rfl, hown2, hb2⟩
  rw [List.nil_append, Nat.zero_add, length_idx2] at hown1 hown2
  obtain ⟨g1, cap1, hv1, hat1, hg1⟩ := own_at hown1 (by omega)
  obtain ⟨g2, cap2, hv2, hat2, _⟩ := own_at hown2 (by omega)
  have hat1' := hat1.later hg1 hb2
  have hbel := hb1.trans (hb2.mono hb1.size)
  have hS := shortlex_walk g1 g2 (Lib.nDigits i + 2) (Lib.nDigits j + 2) cap1 cap2 (idx i) (idx j) w2 (length_idx2 i).symm (length_idx2 j).symm (by omega) (by omega) hat1' hat2
  rw [shortlex_idx] at hS
  subst hv1 hv2
  clear hown1 hown2 hat1 hb1 hb2 ht ht1
  go_wp2_with fail
  refine (parse_walk g1 i (Lib.nDigits i) cap1 w2 rfl hli hi hat1').mono ?_
  rintro e w3 ⟨rfl, rfl⟩
  go_wp2_with fail
  refine (parse_walk g2 j (Lib.nDigits j) cap2 w3 rfl hlj hj hat2).mono ?_
  rintro e w4 ⟨rfl, rfl⟩
  clear hat1' hat2
  have HS := hS
  clear hS
  go_wp2_with fail
  refine HS.mono ?_
  rintro e w5 ⟨rfl, q, rfl⟩
  go_wp2_with fail
  refine (cmpInt i j _).mono ?_
  rintro e w6 ⟨rfl, rfl⟩
  go_wp2
  go_ret
  exact ⟨by simp, below_drewN hbel q⟩

set_option maxHeartbeats 400000 in
theorem law4_neg (i j : Int) (w : World) (h : i < 0 ∨ j < 0) :
    Calls Tryd.prog 4 #[.int .i64 i, .int .i64 j] w fun e w' => e = .returned (.bool true) ∧ w' = w := by
  by_cases hi : i < 0
  · go_enter Tryd.func4, Tryd.ntmps4
    go_wp2
    go_ret
    exact ⟨rfl, rfl⟩
  · have hj : j < 0 := by omega
    go_enter Tryd.func4, Tryd.ntmps4
    go_wp2
    go_ret
    exact ⟨rfl, rfl⟩

end Go.Proofs.Qxb6609332aDoor
