/-
  SEAT b6609465aD: the walks of zzBytes_.., (Bound).def, (Bound).Floor and of the law.
-/
import Derived.Test.Qxb6609465aDoorRows
import Derived.WalkKit
import Derived.WalkSpells
import Derived.WalkSmall
import Derived.WalkLawsBesides
import Derived.KernelRfl
namespace Go.Proofs.Qxb6609465aDoor
open Go.RowKit

/-- The four bounds' names, as the row lists them. -/
def nm0 : ByteArray := ⟨#[109, 97, 120, 95, 108, 97, 116, 101, 110, 99, 121, 95, 117, 115]⟩
def nm1 : ByteArray := ⟨#[109, 97, 120, 95, 106, 105, 116, 116, 101, 114, 95, 117, 115]⟩
def nm2 : ByteArray := ⟨#[109, 97, 120, 95, 108, 111, 115, 115]⟩
def nm3 : ByteArray := ⟨#[109, 105, 110, 95, 98, 97, 110, 100, 119, 105, 100, 116, 104, 95, 98, 112, 115]⟩
def nm : Nat → ByteArray
  | 0 => nm0 | 1 => nm1 | 2 => nm2 | _ => nm3
def at' : Nat → Int
  | 0 => 1 | 1 => 2 | 2 => 4 | _ => 16
def fl : Nat → Bool
  | 3 => true | _ => false

/-- WHAT THE TABLE HOLDS in the world w. -/
structure Tab (w : World) (b off cap : Nat) : Prop where
  var : w.cell? ⟨1, 0, none⟩ = some (.slice (some ⟨b, off, none⟩) 4 cap)
  name : ∀ k, k < 4 → w.cell? ⟨b, off + k * 3, none⟩ = some (.string (nm k))
  attr : ∀ k, k < 4 → w.cell? ⟨b, off + k * 3 + 1, none⟩ = some (.int .u8 (at' k))
  floor : ∀ k, k < 4 → w.cell? ⟨b, off + k * 3 + 2, none⟩ = some (.bool (fl k))

set_option maxHeartbeats 400000 in
theorem bytes6 (s : ByteArray) (w : World) (h : s.size ≤ 1048576) : Calls Tryd.prog 6 #[.string s] w fun e w' => e = .returned (.bool true) ∧ w' = w := by
  go_enter Tryd.func6, Tryd.ntmps6
  go_wp2
  go_ret
  exact ⟨rfl, rfl⟩
set_option maxHeartbeats 400000 in
theorem bytes6_no (s : ByteArray) (w : World) (h : 1048576 < s.size) : Calls Tryd.prog 6 #[.string s] w fun e w' => e = .returned (.bool false) ∧ w' = w := by
  go_enter Tryd.func6, Tryd.ntmps6
  go_wp2
  go_ret
  exact ⟨rfl, rfl⟩

theorem fl_is (k : Nat) (hk : k < 4) (s : ByteArray) (h : ((nm k).toList == s.toList) = true) : fl k = (s.toList == nm3.toList) := by
  have e : s.toList = (nm k).toList := (eq_of_beq h).symm
  rw [e]
  match k, hk with
  | 0, _ => exact (show fl 0 = ((nm 0).toList == nm3.toList) by kernel_rfl)
  | 1, _ => exact (show fl 1 = ((nm 1).toList == nm3.toList) by kernel_rfl)
  | 2, _ => exact (show fl 2 = ((nm 2).toList == nm3.toList) by kernel_rfl)
  | 3, _ => exact (show fl 3 = ((nm 3).toList == nm3.toList) by kernel_rfl)
theorem fl_no (s : ByteArray) (h : ((nm 3).toList == s.toList) = false) : (s.toList == nm3.toList) = false := by
  rw [BEq.comm]; exact h

/-- The world when the result's own cells lie ready. -/
def W0 (w : World) : World := w.alloc (.cells #[.string ⟨#[]⟩, .int .u8 0, .bool false] 35)

theorem W0_size (w : World) : (W0 w).heap.size = w.heap.size + 1 := by simp [W0]
theorem W0_c0 (w : World) : (W0 w).cell? ⟨w.heap.size, 0, none⟩ = some (.string ⟨#[]⟩) := by simp [W0]
theorem W0_c1 (w : World) : (W0 w).cell? ⟨w.heap.size, 1, none⟩ = some (.int .u8 0) := by simp [W0]
theorem W0_c2 (w : World) : (W0 w).cell? ⟨w.heap.size, 2, none⟩ = some (.bool false) := by simp [W0]
theorem W0_z (w : World) (j : Nat) : (W0 w).frozen? ⟨w.heap.size, j, none⟩ = false := by simp [W0]

set_option maxHeartbeats 1000000 in
theorem def_walk (s : ByteArray) (w : World) (b off cap : Nat) (ht : Tab w b off cap) : Calls Tryd.prog 10 #[.string s] w fun e w' => ∃ x y, e = .returned (.agg #[x, y, .bool (s.toList == nm3.toList)]) ∧ Below w.heap.size w w' := by
  have hv := ht.var
  have h1 : 1 < w.heap.size := World.block_lt_of_cell? w _ hv
  have hb0 : Below w.heap.size w (W0 w) := (Below.refl _ _).alloc (Nat.le_refl _) _
  go_enter Tryd.func10, Tryd.ntmps10
  go_wp2
  go_loopw [7] (fun i wr => ∃ k : Nat, k ≤ 4 ∧ i = .int .i64 k ∧ (∀ j, j < k → ((nm j).toList == s.toList) = false) ∧ Below (w.heap.size + 1) (W0 w) wr) (fun i _ => 4 - (intOf i).toNat)
  case atStart => exact ⟨0, by omega, rfl, by omega, Below.refl _ _⟩
  case round =>
    obtain ⟨k, hk, rfl, hno, hst⟩ := hrel
    have hst' : Below w.heap.size w wr := hb0.trans (hst.mono (by omega))
    have hsz : w.heap.size + 1 ≤ wr.heap.size := by have := hst.size; rw [W0_size] at this; exact this
    have hsz1 : w.heap.size < wr.heap.size := hsz
    have r0 := (hst.cell (p := ⟨w.heap.size, 0, none⟩) (Nat.lt_succ_self _)).trans (W0_c0 w)
    have r1 := (hst.cell (p := ⟨w.heap.size, 1, none⟩) (Nat.lt_succ_self _)).trans (W0_c1 w)
    have r2 := (hst.cell (p := ⟨w.heap.size, 2, none⟩) (Nat.lt_succ_self _)).trans (W0_c2 w)
    have z0 := (hst.frozen (p := ⟨w.heap.size, 0, none⟩) (Nat.lt_succ_self _)).trans (W0_z w 0)
    have z1 := (hst.frozen (p := ⟨w.heap.size, 1, none⟩) (Nat.lt_succ_self _)).trans (W0_z w 1)
    have z2 := (hst.frozen (p := ⟨w.heap.size, 2, none⟩) (Nat.lt_succ_self _)).trans (W0_z w 2)
    by_cases hlt : k < 4
    · have hln : (k : Int) < 4 := by omega
      have hbb := World.block_lt_of_cell? w _ (ht.name k hlt)
      have c0 : wr.cell? ⟨b, off + k * 3, none⟩ = _ := (hst'.cell (p := ⟨b, off + k * 3, none⟩) hbb).trans (ht.name k hlt)
      have c1 : wr.cell? ⟨b, off + k * 3 + 1, none⟩ = _ := (hst'.cell (p := ⟨b, off + k * 3 + 1, none⟩) hbb).trans (ht.attr k hlt)
      have c2 : wr.cell? ⟨b, off + k * 3 + 2, none⟩ = _ := (hst'.cell (p := ⟨b, off + k * 3 + 2, none⟩) hbb).trans (ht.floor k hlt)
      rcases Bool.eq_false_or_eq_true ((nm k).toList == s.toList) with he | he
      · have hfl := fl_is k hlt s he
        go_wp2
        (try simp only [Exit.inBlock, Exit.then])
        refine bodyPost_ret (v := .agg #[.string (nm k), .int .u8 (at' k), .bool (s.toList == nm3.toList)]) (by simp [results, Tryd.results10, go_sem, r0, r1, r2, hsz1]) rfl ⟨⟨_, _, rfl⟩, ?_⟩
        refine Below.alloc ?_ (by simp; omega) _
        exact ((hst'.setCell (Nat.le_refl _) _).setCell (Nat.le_refl _) _).setCell (Nat.le_refl _) _
      · go_wp2
        refine ⟨⟨k + 1, by omega, by simp, fun j hj => ?_, hst.alloc hsz _⟩, by simp [intOf]; omega⟩
        by_cases hjk : j = k
        · rw [hjk]; exact he
        · exact hno j (by omega)
    · have hke : k = 4 := by omega
      subst hke
      have hfl := fl_no s (hno 3 (by omega))
      go_wp2
      (try simp only [Exit.inBlock, Exit.then])
      refine bodyPost_ret (v := .agg #[.string s, .int .u8 0, .bool false]) (by simp [results, Tryd.results10, go_sem, r0, r1, r2]) rfl ⟨_, _, by rw [hfl], ?_⟩
      exact ((hst'.setCell (Nat.le_refl _) _).setCell (Nat.le_refl _) _).setCell (Nat.le_refl _) _


set_option maxHeartbeats 400000 in
theorem floor_walk (s : ByteArray) (w : World) (b off cap : Nat) (ht : Tab w b off cap) : Calls Tryd.prog 7 #[.string s] w fun e w' => e = .returned (.bool (s.toList == nm3.toList)) ∧ Below w.heap.size w w' := by
  have hfd : ∀ (x y : Value) (w : World), (Instr.field 35 (.agg #[x, y, .bool (s.toList == nm3.toList)]) 2).run Tryd.prog w = .ok (.bool (s.toList == nm3.toList)) w := fun _ _ _ => by kernel_rfl
  go_enter Tryd.func7, Tryd.ntmps7
  go_wp2_with fail
  refine (def_walk s w b off cap ht).mono ?_
  rintro e w' ⟨x, y, rfl, bel⟩
  go_wp2
  go_ret
  exact ⟨rfl, bel⟩

set_option maxHeartbeats 400000 in
theorem law_walk (s : ByteArray) (w : World) (b off cap : Nat) (ht : Tab w b off cap) : Calls Tryd.prog 4 #[.string s] w fun e w' => e = .returned (.bool true) ∧ Below w.heap.size w w' := by
  by_cases h : s.size ≤ 1048576
  · go_enter Tryd.func4, Tryd.ntmps4
    go_wp2_with fail
    refine (bytes6 s w h).mono ?_
    rintro e w' ⟨rfl, rfl⟩
    go_wp2_with fail
    refine (floor_walk s w' b off cap ht).mono ?_
    rintro e w2 ⟨rfl, bel⟩
    go_wp2
    go_ret
    refine ⟨?_, bel⟩
    show Ending.returned (.bool ((s.toList == nm3.toList) == (s.toList == [109, 105, 110, 95, 98, 97, 110, 100, 119, 105, 100, 116, 104, 95, 98, 112, 115]))) = _
    rw [show nm3.toList = [109, 105, 110, 95, 98, 97, 110, 100, 119, 105, 100, 116, 104, 95, 98, 112, 115] by kernel_rfl]
    simp only [BEq.rfl]
  · go_enter Tryd.func4, Tryd.ntmps4
    go_wp2_with fail
    refine (bytes6_no s w (by omega)).mono ?_
    rintro e w' ⟨rfl, rfl⟩
    go_wp2
    go_ret
    exact ⟨rfl, Below.refl _ _⟩
end Go.Proofs.Qxb6609465aDoor
