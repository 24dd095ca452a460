/-
  SEAT b6609332aD: the walks of zzBytes_.., zzCloneBytes, zzSameBytes, zzCat.
-/
import Derived.Test.Qxb6609332aDoorW3
import Derived.WalkSpells
import Derived.WalkSmall
namespace Go.Proofs.Qxb6609332aDoor
open Go.RowKit

def intCells (zs : List Int) : List Value := zs.map (Value.int .u8)
theorem length_intCells (zs : List Int) : (intCells zs).length = zs.length := by simp [intCells]
theorem getElem_intCells (zs : List Int) (j : Nat) (hj : j < zs.length) : (intCells zs)[j]? = some (.int .u8 (zs.getD j 0)) := by
  simp [intCells, hj]
def bz (l : List UInt8) : List Int := l.map fun u => (u.toNat : Int)
theorem byteCells_bz (l : List UInt8) : Lib.byteCells l = intCells (bz l) := by simp [Lib.byteCells, intCells, bz]
theorem intCells_append (a b : List Int) : intCells (a ++ b) = intCells a ++ intCells b := by simp [intCells]

/-- WHAT A SLICE READS AS in the world w: 'zs'; where there is an element its address is known. -/
structure Rd (w : World) (ao : Option Addr) (len : Nat) (zs : List Int) : Prop where
  zlen : zs.length = len
  cells : 0 < len → ∃ b off, ao = some ⟨b, off, none⟩ ∧ ∀ j, j < len → w.cell? ⟨b, off + j, none⟩ = some (.int .u8 (zs.getD j 0))

theorem Rd.later {W w : World} {ao : Option Addr} {len : Nat} {zs : List Int} (h : Rd W ao len zs) (hb : Below W.heap.size W w) : Rd w ao len zs :=
  ⟨h.zlen, fun hl => by
    obtain ⟨b, off, e, hc⟩ := h.cells hl
    refine ⟨b, off, e, fun j hj => ?_⟩
    have h1 := hc j hj
    rw [hb.cell (p := ⟨b, off + j, none⟩) (World.block_lt_of_cell? W _ h1)]
    exact h1⟩

/-- A row of one's own, read. -/
theorem own_rd {w : World} {B n : Nat} {v : Value} {zs : List Int} (h : w.ownsRow B 5 1 v n (intCells zs)) : ∃ ao cap, v = .slice ao n cap ∧ (ao = none → cap = 0) ∧ Rd w ao n zs := by
  have h0 := h
  have hl : zs.length = n := by have := h.1; rw [length_intCells] at this; omega
  rcases h.2 with ⟨rfl, rfl⟩ | ⟨g, cap, cur, rfl, _⟩
  · exact ⟨none, 0, rfl, fun _ => rfl, hl, fun h => by omega⟩
  · refine ⟨some ⟨g, 0, none⟩, cap, rfl, by simp, hl, fun _ => ⟨g, 0, rfl, fun j hj => ?_⟩⟩
    have := h0.cells (g := g) rfl j _ (getElem_intCells zs j (by omega))
    rwa [Addr.add_lit] at this

theorem own_base {w : World} {B B' n : Nat} {v : Value} {xs : List Value} (h : w.ownsRow B 5 1 v n xs) (hB : B' ≤ B) : w.ownsRow B' 5 1 v n xs := by
  refine ⟨h.1, ?_⟩
  rcases h.2 with h1 | ⟨g, cap, cur, e1, e2, e3⟩
  · exact .inl h1
  · exact .inr ⟨g, cap, cur, e1, Nat.le_trans hB e2, e3⟩

set_option maxHeartbeats 400000 in
theorem bytes5 (a : Option Addr) (len cap : Nat) (i : Int) (w : World) (h : len ≤ 1048576) :
    Calls Tryd.prog 5 #[.slice a len cap, .int .i64 i] w fun e w' => e = .returned (.bool true) ∧ w' = w := by
  go_enter Tryd.func5, Tryd.ntmps5
  go_wp2
  go_ret
  exact ⟨rfl, rfl⟩
set_option maxHeartbeats 400000 in
theorem bytes5_no (a : Option Addr) (len cap : Nat) (i : Int) (w : World) (h : 1048576 < len) :
    Calls Tryd.prog 5 #[.slice a len cap, .int .i64 i] w fun e w' => e = .returned (.bool false) ∧ w' = w := by
  go_enter Tryd.func5, Tryd.ntmps5
  go_wp2
  go_ret
  exact ⟨rfl, rfl⟩

theorem run_mk (n : Nat) (h : n ≤ 1048576) (w : World) : (Instr.makeSlice 22 (.int .i64 (n : Int)) (.int .i64 (n : Int))).run Tryd.prog w = .ok (.slice (some ⟨w.heap.size, 0, none⟩) n n) (w.alloc (.cells (madeCells #[.int .u8 0] n) 5)) := by
  obtain ⟨i0, hi, hz0, hz1, hz2⟩ := info_parts Tryd.i5
  have := run_make (P := Tryd.prog) w 22 5 i0 _ Tryd.underlying22 hi hz0 .i64 .i64 n n (by omega) (by omega) (by rw [hz2]; omega) (by omega)
  rw [hz1] at this
  simpa [Value.cells] using this

set_option maxHeartbeats 400000 in
theorem clone_nil (w : World) : Calls Tryd.prog 6 #[.slice none 0 0] w fun e w' => e = .returned (.slice none 0 0) ∧ w' = w := by
  have hn := fun (a : Option Addr) (n c : Nat) (w : World) => Lib.run_eql_slice_nil (P := Tryd.prog) w 22 5 a n c 0 0 Tryd.underlying22
  go_enter Tryd.func6, Tryd.ntmps6
  go_wp2
  go_ret
  exact ⟨rfl, rfl⟩

/-- The row that a clone fills, behind k stores. -/
structure Fill (w : World) (G len k : Nat) (zs : List Int) (wr : World) : Prop where
  bel : Below w.heap.size w wr
  row : ∃ cur, wr.heap[G]? = some (.cells cur 5 (0, 0)) ∧ cur.size = len ∧ cur.toList.take k = (intCells zs).take k

theorem Fill.store {w : World} {G len k : Nat} {zs : List Int} {wr : World} (h : Fill w G len k zs wr) (hG : w.heap.size ≤ G) (hz : zs.length = len) (hk : k < len) :
    Fill w G len (k + 1) zs (wr.setCell ⟨G, k, none⟩ (.int .u8 (zs.getD k 0))) := by
  obtain ⟨cur, hg, hs, ht⟩ := h.row
  refine ⟨h.bel.setCell hG _, cur.setIfInBounds k (.int .u8 (zs.getD k 0)), ?_, by simpa using hs, ?_⟩
  · rw [setCell_eq_setRow wr G k cur 5 (0, 0) _ hg]
    exact setRow_heap wr G cur _ 5 _ hg
  · have hkz : k < (intCells zs).length := by rw [length_intCells]; omega
    rw [Array.toList_setIfInBounds, List.take_succ_eq_append_getElem (by simp; omega), List.take_succ_eq_append_getElem hkz, List.take_set_of_le (Nat.le_refl _), ht]
    have e := getElem_intCells zs k (by omega)
    rw [List.getElem?_eq_getElem hkz] at e
    simp only [Option.some.injEq] at e
    rw [e]
    simp

theorem Fill.cell {w : World} {G len k : Nat} {zs : List Int} {wr : World} (h : Fill w G len k zs wr) (hk : k < len) : ∃ u, wr.cell? ⟨G, k, none⟩ = some u ∧ wr.frozen? ⟨G, k, none⟩ = false := by
  obtain ⟨cur, hg, hs, _⟩ := h.row
  exact ⟨_, cell_cur hg k (by omega), frozen_cur hg k⟩

set_option maxHeartbeats 1000000 in
theorem clone_some (x : Addr) (len cap : Nat) (zs : List Int) (w : World) (h : Rd w (some x) len zs) (hl : len ≤ 1048576) :
    Calls Tryd.prog 6 #[.slice (some x) len cap] w fun e w' => e = .returned (.slice (some ⟨w.heap.size, 0, none⟩) len len) ∧ Fill w w.heap.size len len zs w' := by
  have hn := fun (a : Option Addr) (n c : Nat) (w : World) => Lib.run_eql_slice_nil (P := Tryd.prog) w 22 5 a n c 0 0 Tryd.underlying22
  have hmk := run_mk len hl
  have hstart : Fill w w.heap.size len 0 zs (w.alloc (.cells (madeCells #[.int .u8 0] len) 5)) := ⟨(Below.refl _ _).alloc (Nat.le_refl _) _, _, heap_alloc_new w _, size_madeCells _ _, by simp⟩
  generalize madeCells #[Value.int .u8 0] len = M at *
  go_enter Tryd.func6, Tryd.ntmps6
  go_wp2
  go_loopw [4] (fun i wr => ∃ k : Nat, k ≤ len ∧ i = .int .i64 k ∧ Fill w w.heap.size len k zs wr) (fun i _ => len - (intOf i).toNat)
  case atStart => exact ⟨0, by omega, rfl, hstart⟩
  case round =>
    obtain ⟨k, hk, rfl, hf⟩ := hrel
    clear hstart hmk hn
    by_cases hlt : k < len
    · obtain ⟨b, off, hx, hc⟩ := h.cells (by omega)
      obtain rfl : x = ⟨b, off, none⟩ := by simpa using hx
      have hck := hc k hlt
      have hlb := World.block_lt_of_cell? w _ hck
      have hck2 : wr.cell? ⟨b, off + k, none⟩ = some (.int .u8 (zs.getD k 0)) := by rw [hf.bel.cell (p := ⟨b, off + k, none⟩) hlb]; exact hck
      have hstore := hf.store (Nat.le_refl _) h.zlen hlt
      obtain ⟨u, hu, hfz⟩ := hf.cell hlt
      have hln : (k : Int) < (len : Int) := by omega
      clear hck hc hf hx h
      generalize zs.getD k 0 = z at *
      go_wp2
      exact ⟨⟨k + 1, by omega, by go_num, hstore⟩, by simp [intOf]; omega⟩
    · have hke : k = len := by omega
      subst hke
      go_wp2
      go_ret
      exact ⟨rfl, hf⟩

theorem clone_any (ao : Option Addr) (len cap : Nat) (zs : List Int) (w : World) (h : Rd w ao len zs) (hnil : ao = none → len = 0 ∧ cap = 0) (hl : len ≤ 1048576) :
    Calls Tryd.prog 6 #[.slice ao len cap] w fun e w' => ∃ v', e = .returned v' ∧ w'.ownsRow w.heap.size 5 1 v' len (intCells zs) ∧ Below w.heap.size w w' := by
  cases ao with
  | none =>
    obtain ⟨rfl, rfl⟩ := hnil rfl
    refine (clone_nil w).mono ?_
    rintro e w' ⟨rfl, rfl⟩
    obtain rfl : zs = [] := List.eq_nil_of_length_eq_zero h.zlen
    exact ⟨_, rfl, World.ownsRow_nil _ _ 5 1, Below.refl _ _⟩
  | some x =>
    refine (clone_some x len cap zs w h hl).mono ?_
    rintro e w' ⟨rfl, hf⟩
    obtain ⟨cur, hg, hs, ht⟩ := hf.row
    refine ⟨_, rfl, own_mk (Nat.le_refl _) hg (Nat.le_refl _) (by unfold maxLen; omega) hs ?_, hf.bel⟩
    rw [ht, List.take_of_length_le (by rw [length_intCells, h.zlen]; exact Nat.le_refl _)]

set_option maxHeartbeats 1000000 in
theorem same_walk (ao bo : Option Addr) (n pc sc : Nat) (zs : List Int) (w : World) (hnl : n ≤ 140737488355328) (ha : Rd w ao n zs) (hb : Rd w bo n zs) :
    Calls Tryd.prog 10 #[.slice ao n pc, .slice bo n sc] w fun e w' => e = .returned (.bool true) ∧ ∃ q, w' = w.drewN q := by
  go_enter Tryd.func10, Tryd.ntmps10
  go_wp2
  go_loopw [5] (fun i wr => ∃ k q : Nat, k ≤ n ∧ i = .int .i64 k ∧ wr = w.drewN q) (fun i _ => n - (intOf i).toNat)
  case atStart => exact ⟨0, 0, by omega, rfl, rfl⟩
  case round =>
    obtain ⟨k, q, hk, rfl, rfl⟩ := hrel
    by_cases hlt : k < n
    · obtain ⟨b, off, rfl, hc⟩ := ha.cells (by omega)
      obtain ⟨b', off', rfl, hc'⟩ := hb.cells (by omega)
      have hln : (k : Int) < (n : Int) := by omega
      have h1 := hc k hlt
      have h2 := hc' k hlt
      clear hc hc' ha hb
      generalize zs.getD k 0 = z at *
      go_wp2
      go_quiet (fail)
      go_wp2
      exact ⟨⟨k + 1, q + nq, by omega, by go_num, rfl⟩, by simp [intOf]; omega⟩
    · clear ha hb
      go_wp2
      go_ret
      exact ⟨rfl, q, rfl⟩

theorem take_snoc (zs : List Int) (k : Nat) (h : k < zs.length) : intCells (zs.take k) ++ [Value.int .u8 (zs.getD k 0)] = intCells (zs.take (k + 1)) := by
  rw [List.take_succ_eq_append_getElem h, intCells_append]
  simp [intCells, h]

theorem run_mk0 (n : Nat) (h : n ≤ 16777216) (w : World) : ∃ w', (Instr.makeSlice 22 (.int .i64 0) (.int .i64 (n : Int))).run Tryd.prog w = .ok (.slice (some ⟨w.heap.size, 0, none⟩) 0 n) w' ∧ w'.ownsRow w.heap.size 5 1 (.slice (some ⟨w.heap.size, 0, none⟩) 0 n) 0 [] ∧ Below w.heap.size w w' := by
  obtain ⟨i0, hi, hz0, hz1, hz2⟩ := info_parts Tryd.i5
  obtain ⟨w', h1, h2, h3⟩ := run_make_own (P := Tryd.prog) w w.heap.size 22 5 i0 _ 1 Tryd.underlying22 hi hz0 hz1 .i64 .i64 n (by rw [hz2]; omega) (by unfold maxLen; omega) (Nat.le_refl _)
  exact ⟨w', h1, h2, (Below.refl _ _).grown h3 (Nat.le_refl _) (fun k hk => by cases hk)⟩

set_option maxHeartbeats 4000000 in
theorem cat_walk (ao bo : Option Addr) (n m pc sc : Nat) (x y : List Int) (w : World) (hn : n ≤ 2097152) (hm : m ≤ 2097152) (ha : Rd w ao n x) (hb : Rd w bo m y) :
    Calls Tryd.prog 8 #[.slice ao n pc, .slice bo m sc] w fun e w' => ∃ v', e = .returned v' ∧ w'.ownsRow w.heap.size 5 1 v' (n + m) (intCells (x ++ y)) ∧ Below w.heap.size w w' := by
  obtain ⟨w0, hmk, hown0, hb0⟩ := run_mk0 (n + m) (by omega) w
  rw [Int.natCast_add] at hmk
  have Hx : Hid (x.length = n) := ha.zlen
  have Hy : Hid (y.length = m) := hb.zlen
  go_enter Tryd.func8, Tryd.ntmps8
  go_wp2
  go_loopw [5, 6] (fun vo vi wr => ∃ k : Nat, k ≤ n ∧ vi = .int .i64 k ∧ wr.ownsRow w.heap.size 5 1 vo k (intCells (x.take k)) ∧ Below w.heap.size w wr) (fun _ vi _ => n - (intOf vi).toNat)
  case atStart => exact ⟨0, by omega, rfl, hown0, hb0⟩
  case round =>
    obtain ⟨k, hk, rfl, hown1, hb1⟩ := hrel
    clear hown0 hb0 hmk
    by_cases hlt : k < n
    · obtain ⟨b, off, rfl, hc⟩ := ha.cells (by omega)
      have h1 := hc k hlt
      have h2 : wr.cell? ⟨b, off + k, none⟩ = some (.int .u8 (x.getD k 0)) := by rw [hb1.cell (p := ⟨b, off + k, none⟩) (World.block_lt_of_cell? w _ h1)]; exact h1
      have hln : (k : Int) < (n : Int) := by omega
      have Hs : Hid (intCells (x.take k) ++ [Value.int .u8 (x.getD k 0)] = intCells (x.take (k + 1))) := take_snoc x k (by have := Hx.out; omega)
      clear h1 hc ha hb
      generalize x.getD k 0 = z at *
      go_wp2_with (at_builtin; refine wpList_app1 _ rfl _ _ rfl rfl (hown1.alloc _) w (hb1.alloc hb1.size _) (Nat.le_refl _) ⟨wr.heap.size, 0, none⟩ 1 (Value.int .u8 z) rfl (cell_new _ _ _) rfl (by omega) ?_)
      intro v' w1 hown' hb'
      go_wp2
      go_roundw
      case rel => exact ⟨k + 1, by omega, by go_num, by rw [← Hs.out]; exact hown', hb'⟩
      case measure => simp [intOf]; omega
    · have hke : k = n := by omega
      subst hke
      rw [List.take_of_length_le (by have := Hx.out; omega)] at hown1
      go_wp2
      go_loopw [5, 7] (fun vo vi wx => ∃ j : Nat, j ≤ m ∧ vi = .int .i64 j ∧ wx.ownsRow w.heap.size 5 1 vo (k + j) (intCells x ++ intCells (y.take j)) ∧ Below w.heap.size w wx) (fun _ vi _ => m - (intOf vi).toNat)
      case atStart => exact ⟨0, by omega, rfl, by simpa [intCells] using hown1, hb1⟩
      case round =>
        obtain ⟨j, hj, rfl, hown2, hb2⟩ := hrel
        clear hown1 hb1
        by_cases hlt2 : j < m
        · obtain ⟨b, off, rfl, hc⟩ := hb.cells (by omega)
          have h1 := hc j hlt2
          have h2 : wr.cell? ⟨b, off + j, none⟩ = some (.int .u8 (y.getD j 0)) := by rw [hb2.cell (p := ⟨b, off + j, none⟩) (World.block_lt_of_cell? w _ h1)]; exact h1
          have hln : (j : Int) < (m : Int) := by omega
          have Hs : Hid (intCells (y.take j) ++ [Value.int .u8 (y.getD j 0)] = intCells (y.take (j + 1))) := take_snoc y j (by have := Hy.out; omega)
          clear h1 hc ha hb
          generalize y.getD j 0 = z at *
          go_wp2_with (at_builtin; refine wpList_app1 _ rfl _ _ rfl rfl (hown2.alloc _) w (hb2.alloc hb2.size _) (Nat.le_refl _) ⟨wr.heap.size, 0, none⟩ 1 (Value.int .u8 z) rfl (cell_new _ _ _) rfl (by omega) ?_)
          intro v' w1 hown' hb'
          go_wp2
          go_roundw
          case rel => exact ⟨j + 1, by omega, by go_num, by rw [← Hs.out, ← Nat.add_assoc]; exact hown', hb'⟩
          case measure => simp [intOf]; omega
        · have hje : j = m := by omega
          subst hje
          rw [List.take_of_length_le (by have := Hy.out; omega), ← intCells_append] at hown2
          go_wp2
          go_ret
          exact ⟨_, rfl, hown2, hb2⟩

end Go.Proofs.Qxb6609332aDoor
