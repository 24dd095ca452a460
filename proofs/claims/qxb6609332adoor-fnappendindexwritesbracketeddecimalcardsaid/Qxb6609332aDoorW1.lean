/-
  SEAT b6609332aD: slices.Grow and PutUint64 over a row of the call's own; the walks of appendDecimal, appendIndex, ZZappendIndex.
-/
import Derived.Test.Qxb6609332aDoorLib
import Derived.Deep.QuietTactic
import Derived.BigQuiet
import Derived.Deep.RegionWith
import Derived.Lib.EndianMore
namespace Go.Proofs.Qxb6609332aDoor
open Go.RowKit

theorem setCells_row (g : Nat) (t : TypeId) (fr : Nat × Nat) : ∀ (vs : List Value) (o : Nat) (cur : Array Value) (w : World), w.heap[g]? = some (.cells cur t fr) → o + vs.length ≤ cur.size →
    w.setCells g o vs = w.setRow g (cur.toList.take o ++ vs ++ cur.toList.drop (o + vs.length)).toArray
  | [], o, cur, w, hg, _ => by
    simp only [List.append_nil, List.length_nil, Nat.add_zero, List.take_append_drop, Array.toArray_toList]
    rw [setRow_self w g cur t fr hg]
    rfl
  | v :: rest, o, cur, w, hg, hl => by
    have h1 : w.setCell ⟨g, o, none⟩ v = w.setRow g (cur.setIfInBounds o v) := setCell_eq_setRow w g o cur t fr v hg
    have ih := setCells_row g t fr rest (o + 1) (cur.setIfInBounds o v) (w.setRow g (cur.setIfInBounds o v)) (setRow_heap w g cur _ t _ hg) (by simp at hl ⊢; omega)
    show (w.setCell ⟨g, o, none⟩ v).setCells g (o + 1) rest = _
    rw [h1, ih, setRow_setRow]
    congr 2
    have e := list_seg_step cur.toList o v rest (by simp at hl ⊢; omega)
    simpa [Array.toList_setIfInBounds, Nat.add_assoc] using e

/-- A row of one's own that is not nil, written out. -/
theorem own_open {w : World} {B n : Nat} {sv : Value} {xs : List Value} (h : w.ownsRow B 5 1 sv n xs) (hn : 1 ≤ n) :
    ∃ g cap cur, sv = .slice (some ⟨g, 0, none⟩) n cap ∧ B ≤ g ∧ w.heap[g]? = some (.cells cur 5 (0, 0)) ∧ n ≤ cap ∧ cap ≤ maxLen ∧ cur.size = cap ∧ cur.toList.take n = xs ∧ xs.length = n := by
  have h1 := h.1
  rcases h.2 with ⟨_, h0⟩ | ⟨g, cap, cur, e1, e2, e3, e4, e5, e6, e7⟩
  · omega
  · exact ⟨g, cap, cur, e1, e2, e3, e4, e5, by simpa using e6, by simpa using e7, by simpa using h1⟩
theorem own_mk {w : World} {B n g cap : Nat} {cur : Array Value} {xs : List Value} (e2 : B ≤ g) (e3 : w.heap[g]? = some (.cells cur 5 (0, 0))) (e4 : n ≤ cap) (e5 : cap ≤ maxLen) (e6 : cur.size = cap) (e7 : cur.toList.take n = xs) :
    w.ownsRow B 5 1 (.slice (some ⟨g, 0, none⟩) n cap) n xs := by
  have hl : xs.length = n := by rw [← e7, List.length_take, Array.length_toList]; omega
  exact ⟨by simpa using hl, .inr ⟨g, cap, cur, rfl, e2, e3, e4, e5, by simpa using e6, by simpa using e7⟩⟩

/-- slices.Grow(s, 8), s a row of one's own. -/
theorem grow_own {w : World} {B n : Nat} {sv : Value} {xs : List Value} (hown : w.ownsRow B 5 1 sv n xs) (hn : 1 ≤ n) (hBw : B ≤ w.heap.size) (hlim : n + 8 ≤ 140737488355328) :
    Calls Tryd.prog 19 #[sv, .int .i64 8] w fun e w' => ∃ g G, e = .returned (.slice (some ⟨g, 0, none⟩) n G) ∧ n + 8 ≤ G ∧ w'.ownsRow B 5 1 (.slice (some ⟨g, 0, none⟩) n G) n xs ∧ Below B w w' := by
  have hown0 := hown
  obtain ⟨g, cap, cur, rfl, hBg, hg, hnc, hcm, hcs, htake, hxl⟩ := own_open hown hn
  by_cases hroom : n + 8 ≤ cap
  · refine (grow_room (some ⟨g, 0, none⟩) n cap 8 w hnc (by unfold maxLen at hcm; omega) (by decide) hroom).mono ?_
    rintro e w' ⟨rfl, rfl⟩
    exact ⟨g, cap, rfl, hroom, hown0, Below.refl _ _⟩
  · refine (grow_grow g n cap 8 cur.toList w hnc (by omega) hlim (by simpa using hcs) (fun j v hj => ?_)).mono ?_
    · unfold World.cell?
      simp only [hg]
      simpa using hj
    · rintro e w' ⟨G, hG1, hG2, rfl, rfl⟩
      refine ⟨w.heap.size, G, rfl, hG1, own_mk hBw (heap_alloc_new w.drew _) (by omega) hG2 ?_ ?_, (Below.refl _ _).drew.alloc hBw _⟩
      · simp [size_zeroCells, hcs]
        omega
      · simp only [Array.toList_append, Array.toArray_toList, List.append_assoc]
        rw [List.take_append_of_le_length (by simp; omega)]
        exact htake

theorem cell_cur {w : World} {g : Nat} {cur : Array Value} {t : TypeId} {fr : Nat × Nat} (hg : w.heap[g]? = some (.cells cur t fr)) (j : Nat) (hj : j < cur.size) : w.cell? ⟨g, j, none⟩ = some cur[j] := by
  unfold World.cell?
  simp only [hg]
  exact Array.getElem?_eq_getElem hj
theorem frozen_cur {w : World} {g : Nat} {cur : Array Value} {t : TypeId} (hg : w.heap[g]? = some (.cells cur t (0, 0))) (j : Nat) : w.frozen? ⟨g, j, none⟩ = false := by
  simp [World.frozen?, hg]

/-- PutUint64 into the spare room of a row of one's own. -/
theorem put_own {w : World} {B n g G v : Nat} {xs : List Value} (hown : w.ownsRow B 5 1 (.slice (some ⟨g, 0, none⟩) n G) n xs) (hn : 1 ≤ n) (hG : n + 8 ≤ G) (hv : v < 18446744073709551616) (hBw : B ≤ w.heap.size) (c : Nat) :
    Calls Tryd.prog 20 #[.agg #[], .slice (some ⟨g, n, none⟩) 8 c, .int .u64 v] w fun e w' => e = .returned (.tuple #[]) ∧ Below B w w' ∧ ∀ k, k ≤ 8 → w'.ownsRow B 5 1 (.slice (some ⟨g, 0, none⟩) (n + k) G) (n + k) (xs ++ (Lib.byteCells (Lib.leBytes 8 v)).take k) := by
  obtain ⟨g', cap, cur, hsv, hBg, hg, hnc, hcm, hcs, htake, hxl⟩ := own_open hown hn
  obtain ⟨rfl, rfl⟩ : g = g' ∧ G = cap := by simpa using hsv
  have hlt : g < w.heap.size := (Array.getElem?_eq_some_iff.1 hg).1
  refine (Tryd.binary_LE_PutUint64 g n 8 c v hv _ _ _ _ _ _ _ _ w (Nat.le_refl _) (cell_cur hg n (by omega)) (cell_cur hg (n + 1) (by omega)) (cell_cur hg (n + 2) (by omega)) (cell_cur hg (n + 3) (by omega)) (cell_cur hg (n + 4) (by omega)) (cell_cur hg (n + 5) (by omega)) (cell_cur hg (n + 6) (by omega)) (cell_cur hg (n + 7) (by omega))
    (frozen_cur hg _) (frozen_cur hg _) (frozen_cur hg _) (frozen_cur hg _) (frozen_cur hg _) (frozen_cur hg _) (frozen_cur hg _) (frozen_cur hg _)).mono ?_
  rintro e w' ⟨rfl, rfl⟩
  have hbl : (Lib.byteCells (Lib.leBytes 8 v)).length = 8 := by simp [Lib.byteCells, Lib.leBytes_length]
  have hg2 : (w.alloc (.cells #[] 42)).heap[g]? = some (.cells cur 5 (0, 0)) := by rw [Below.heap_alloc w _ g hlt]; exact hg
  have hrow := setCells_row g 5 (0, 0) (Lib.byteCells (Lib.leBytes 8 v)) n cur _ hg2 (by rw [hbl]; omega)
  refine ⟨rfl, ((Below.refl _ _).alloc hBw _).trans (Lib.below_setCells_w hBg _ _ _), fun k hk => ?_⟩
  rw [hrow]
  refine own_mk hBg (setRow_heap _ g cur _ 5 _ hg2) (by omega) hcm ?_ ?_
  · simp [hbl]
    omega
  · rw [List.append_assoc, htake, List.take_append, hxl, List.take_of_length_le (by omega), Nat.add_sub_cancel_left, List.take_append_of_le_length (by omega)]

theorem add_zero (a : Addr) : a.add 0 = a := by
  unfold Addr.add; split <;> simp_all

/-- ONE BYTE APPENDED to a row of one's own, for the walk. -/
theorem wpList_app1 (w : World) {ops : Array Oper} {rest : List Oper} {o : Oper} {a : Act} {Q : Exit → Act → World → Prop} (hgd : o.guard = none) (s x : Operand)
    (ho : o.op = .call { callee := .builtin .append, args := #[s, x], argTypes := #[22, 22] })
    {B n : Nat} {v : Value} {xs : List Value} (hs : a.eval s = v) (hown : w.ownsRow B 5 1 v n xs) (w0 : World) (hb : Below B w0 w) (hB0 : B ≤ w0.heap.size)
    (ad : Addr) (c : Nat) (u : Value) (hx : a.eval x = .slice (some ad) 1 c) (hnew : w.cell? ad = some u) (h1 : u.oneCell' = true) (hlim : n + 1 ≤ 140737488355328)
    (hK : ∀ v' w', w'.ownsRow B 5 1 v' (n + 1) (xs ++ [u]) → Below B w0 w' → wpList Tryd.prog ops Q rest (a.put o.dst v') w') : wpList Tryd.prog ops Q (o :: rest) a w := by
  obtain ⟨i0, hi, hz0, hz1, hz2⟩ := info_parts Tryd.i5
  have hBw : B ≤ w.heap.size := Nat.le_trans hB0 hb.size
  refine wpList_append_own w hgd s x 22 ho B 5 i0 (.int .u8 0) 1 1 Tryd.underlying22 hi hz0 hz1 hz2 rfl (by decide) v n xs hs hown ad 1 c [u] hx rfl ?_ ?_ (by unfold maxLen; omega) (by omega) hBw ?_
  · intro j x hj
    match j, hj with
    | 0, hj => simp at hj; subst hj; rw [add_zero]; exact hnew
  · intro x hx
    simp at hx; subst hx; exact h1
  · intro v' w' hown' hgrow _
    exact hK v' w' hown' (hb.grown hgrow hBw (fun k hk => (hown.lt k hk).1))

end Go.Proofs.Qxb6609332aDoor
