/-
  SEAT b6609280a: the walks of appendUint, appendInt, ZZappendInt, zzBytes_.., zzCloneBytes.
-/
import Derived.Test.Qxb6609280aApp
import Derived.Laws.CopyOwn
import Derived.WalkSpells
namespace Go.Proofs.Qxb6609280a
open Go.RowKit

def keyOf (f : Int) : Nat := (f * 8 % 18446744073709551616).toNat
def encOf (v : Int) : Nat := (v % 18446744073709551616).toNat

theorem keyOf_lt (f : Int) : keyOf f < 18446744073709551616 := by unfold keyOf; omega
theorem encOf_lt (v : Int) : encOf v < 18446744073709551616 := by unfold encOf; omega
theorem encOf_pos {v : Int} (h0 : v ≠ 0) (h1 : -9223372036854775808 ≤ v) (h2 : v ≤ 9223372036854775807) : 0 < encOf v := by unfold encOf; omega
theorem enc_wrap (v : Int) : IntKind.u64.wrap v = (encOf v : Int) := by
  rw [IntKind.wrap_u64]; unfold encOf; omega
theorem key_shl (f : Int) : IntKind.u64.wrap (IntKind.u64.wrap f * 8) = (keyOf f : Int) := by
  rw [IntKind.wrap_u64, IntKind.wrap_u64]; unfold keyOf; omega
theorem key_bits (f : Int) : bits .or .u64 (IntKind.u64.wrap (IntKind.u64.wrap f * 8)) 0 = (keyOf f : Int) := by
  have h := keyOf_lt f
  rw [key_shl]
  rw [bits_join_low .u64 64 (by decide) wraps_u64 64 (keyOf f : Int) 0 (by omega) (by omega) (by omega) (by omega) (by decide) (by decide)]
  omega

/-- The two fields' bytes. -/
def fieldBytes (f v : Int) : List UInt8 := Lib.uvarint (keyOf f) ++ Lib.uvarint (encOf v)

theorem byteCells_append (a b : List UInt8) : Lib.byteCells (a ++ b) = Lib.byteCells a ++ Lib.byteCells b := by simp [Lib.byteCells]

set_option maxHeartbeats 400000 in
theorem appendUint {W : World} {ao : Option Addr} {len : Nat} {olds : List Value} (hc : Full W ao len olds) (f v : Int) (hu0 : 0 < encOf v)
    (w : World) (sv : Value) (ks : List Value) (happ : App W ao len olds w sv ks) (hlim : len + ks.length + 20 ≤ 140737488355328) :
    Calls Try.prog 25 #[sv, .int .i64 f, .int .u64 (encOf v)] w fun e w' => ∃ v', e = .returned v' ∧ App W ao len olds w' v' (ks ++ Lib.byteCells (fieldBytes f v)) := by
  have hk := key_bits f
  have hkl := keyOf_lt f
  have hul := encOf_lt v
  have hl := Lib.uvarint_length64 hkl
  unfold fieldBytes
  rw [byteCells_append, ← List.append_assoc]
  generalize keyOf f = k at *
  generalize encOf v = u at *
  go_enter Try.func25, Try.ntmps25
  go_wp2_with fail
  refine (appendUvarint hc k hkl w sv ks happ (by omega)).mono ?_
  rintro e w1 ⟨v1, rfl, happ1⟩
  go_wp2_with fail
  refine (appendUvarint hc u hul w1 v1 _ happ1 ?_).mono ?_
  · rw [List.length_append, length_byteCells]; omega
  rintro e w2 ⟨v2, rfl, happ2⟩
  go_wp2
  go_ret
  exact ⟨v2, rfl, happ2⟩

set_option maxHeartbeats 400000 in
theorem appendInt24 {W : World} {ao : Option Addr} {len : Nat} {olds : List Value} (hc : Full W ao len olds) (f v : Int) (hu0 : 0 < encOf v)
    (w : World) (sv : Value) (ks : List Value) (happ : App W ao len olds w sv ks) (hlim : len + ks.length + 20 ≤ 140737488355328) :
    Calls Try.prog 24 #[sv, .int .i64 f, .int .i64 v] w fun e w' => ∃ v', e = .returned v' ∧ App W ao len olds w' v' (ks ++ Lib.byteCells (fieldBytes f v)) := by
  have he := enc_wrap v
  go_enter Try.func24, Try.ntmps24
  go_wp2_with fail
  refine (appendUint hc f v hu0 w sv ks happ hlim).mono ?_
  rintro e w1 ⟨v1, rfl, happ1⟩
  go_wp2
  go_ret
  exact ⟨_, rfl, happ1⟩

set_option maxHeartbeats 400000 in
theorem appendInt {W : World} {ao : Option Addr} {len : Nat} {olds : List Value} (hc : Full W ao len olds) (f v : Int) (hu0 : 0 < encOf v)
    (w : World) (sv : Value) (ks : List Value) (happ : App W ao len olds w sv ks) (hlim : len + ks.length + 20 ≤ 140737488355328) :
    Calls Try.prog 19 #[sv, .int .i64 f, .int .i64 v] w fun e w' => ∃ v', e = .returned v' ∧ App W ao len olds w' v' (ks ++ Lib.byteCells (fieldBytes f v)) := by
  go_enter Try.func19, Try.ntmps19
  go_wp2_with fail
  refine (appendInt24 hc f v hu0 w sv ks happ hlim).mono ?_
  rintro e w1 ⟨v1, rfl, happ1⟩
  go_wp2
  go_ret
  exact ⟨_, rfl, happ1⟩

set_option maxHeartbeats 400000 in
theorem appendInt_zero (f : Int) (w : World) (sv : Value) : Calls Try.prog 19 #[sv, .int .i64 f, .int .i64 0] w fun e w' => e = .returned sv ∧ w' = w := by
  go_enter Try.func19, Try.ntmps19
  go_wp2
  go_ret
  exact ⟨rfl, rfl⟩

set_option maxHeartbeats 400000 in
theorem bytes17 (a : Option Addr) (len cap : Nat) (f v : Int) (w : World) (h : len ≤ 1048576) :
    Calls Try.prog 17 #[.slice a len cap, .int .i64 f, .int .i64 v] w fun e w' => e = .returned (.bool true) ∧ w' = w := by
  go_enter Try.func17, Try.ntmps17
  go_wp2
  go_ret
  exact ⟨rfl, rfl⟩
set_option maxHeartbeats 400000 in
theorem bytes17_no (a : Option Addr) (len cap : Nat) (f v : Int) (w : World) (h : 1048576 < len) :
    Calls Try.prog 17 #[.slice a len cap, .int .i64 f, .int .i64 v] w fun e w' => e = .returned (.bool false) ∧ w' = w := by
  go_enter Try.func17, Try.ntmps17
  go_wp2
  go_ret
  exact ⟨rfl, rfl⟩
set_option maxHeartbeats 400000 in
theorem bytes21 (a : Option Addr) (len cap : Nat) (f v : Int) (w : World) (h : len ≤ 1048576) :
    Calls Try.prog 21 #[.slice a len cap, .int .i64 f, .int .i64 v] w fun e w' => e = .returned (.bool true) ∧ w' = w := by
  go_enter Try.func21, Try.ntmps21
  go_wp2
  go_ret
  exact ⟨rfl, rfl⟩
set_option maxHeartbeats 400000 in
theorem bytes21_no (a : Option Addr) (len cap : Nat) (f v : Int) (w : World) (h : 1048576 < len) :
    Calls Try.prog 21 #[.slice a len cap, .int .i64 f, .int .i64 v] w fun e w' => e = .returned (.bool false) ∧ w' = w := by
  go_enter Try.func21, Try.ntmps21
  go_wp2
  go_ret
  exact ⟨rfl, rfl⟩

set_option maxHeartbeats 400000 in
theorem clone_nil (w : World) : Calls Try.prog 18 #[.slice none 0 0] w fun e w' => e = .returned (.slice none 0 0) ∧ w' = w := by
  have hn := fun (a : Option Addr) (n c : Nat) (w : World) => Lib.run_eql_slice_nil (P := Try.prog) w 36 5 a n c 0 0 Try.underlying36
  go_enter Try.func18, Try.ntmps18
  go_wp2
  go_ret
  exact ⟨rfl, rfl⟩

/-- Bytes as cells. -/
def intCells (zs : List Int) : List Value := zs.map (Value.int .u8)
theorem length_intCells (zs : List Int) : (intCells zs).length = zs.length := by simp [intCells]

theorem splice_all {α : Type} (L cs : List α) (h : cs.length = L.length) : splice L 0 cs = cs := by
  simp [splice, h]

theorem run_mk (n : Nat) (h : n ≤ 1048576) (w : World) : (Instr.makeSlice 36 (.int .i64 (n : Int)) (.int .i64 (n : Int))).run Try.prog w = .ok (.slice (some ⟨w.heap.size, 0, none⟩) n n) (w.alloc (.cells (madeCells #[.int .u8 0] n) 5)) := by
  obtain ⟨i0, hi, hz0, hz1, hz2⟩ := info_parts Try.i5
  have := run_make (P := Try.prog) w 36 5 i0 _ Try.underlying36 hi hz0 .i64 .i64 n n (by omega) (by omega) (by rw [hz2]; omega) (by omega)
  rw [hz1] at this
  simpa [Value.cells] using this

theorem setRow_alloc (w : World) (M C : Array Value) (t : TypeId) : (w.alloc (.cells M t)).setRow w.heap.size C = w.alloc (.cells C t) := by
  unfold World.setRow World.alloc
  congr 1
  apply Array.ext
  · simp
  · intro k h1 h2
    simp only [Array.getElem_modify]
    split
    · rename_i hk; subst hk; simp
    · rename_i hk
      simp at h1
      simp [Array.getElem_push, show k < w.heap.size by omega]

theorem copy_new (w : World) (M : Array Value) (x : Addr) (len cap : Nat) (cs : List Value) (hM : M.size = len) (hl : cs.length = len) (h1 : ∀ v ∈ cs, v.oneCell' = true) (hlt : ∀ j u, cs[j]? = some u → w.cell? (x.add j) = some u) :
    (Builtin.copy_ #[36, 36] 3 #[.slice (some ⟨w.heap.size, 0, none⟩) len len, .slice (some x) len cap]).run Try.prog (w.alloc (.cells M 5)) = .ok (goInt len) (w.alloc (.cells cs.toArray 5)) := by
  have hsrc : ∀ j u, cs[j]? = some u → (w.alloc (.cells M 5)).cell? (x.add j) = some u := by
    intro j u hj
    have h := hlt j u hj
    have hb := World.block_lt_of_cell? w _ h
    rw [World.cell?_of_block (w := w) (Below.heap_alloc w _ _ hb)]
    exact h
  have h := run_copy_row Try.prog (w.alloc (.cells M 5)) 36 36 3 5 w.heap.size 0 len len x len cap M 5 cs Try.underlying36 (by kernel_rfl) (heap_alloc_new w _) (by rw [hl]; simp) hsrc (by omega) h1
  have e : (M.toList.take 0 ++ cs ++ M.toList.drop (0 + cs.length)).toArray = cs.toArray := by
    rw [List.drop_eq_nil_of_le (by simp [hM, hl])]; simp
  rw [e, setRow_alloc, hl] at h
  exact h

theorem oneCell_intCells (zs : List Int) : ∀ v ∈ intCells zs, v.oneCell' = true := by
  intro v hv
  simp [intCells] at hv
  obtain ⟨z, _, rfl⟩ := hv
  rfl

set_option maxHeartbeats 400000 in
theorem clone_some (x : Addr) (len cap : Nat) (zs : List Int) (w : World) (hz : zs.length = len) (hcell : ∀ j u, (intCells zs)[j]? = some u → w.cell? (x.add j) = some u) (hl : len ≤ 1048576) :
    Calls Try.prog 18 #[.slice (some x) len cap] w fun e w' => e = .returned (.slice (some ⟨w.heap.size, 0, none⟩) len len) ∧ w' = w.alloc (.cells (intCells zs).toArray 5) := by
  have hn := fun (a : Option Addr) (n c : Nat) (w : World) => Lib.run_eql_slice_nil (P := Try.prog) w 36 5 a n c 0 0 Try.underlying36
  have hmk := run_mk len hl
  have hcp := copy_new w (madeCells #[.int .u8 0] len) x len cap (intCells zs) (size_madeCells _ _) (by rw [length_intCells, hz]) (oneCell_intCells zs) hcell
  generalize intCells zs = cs at *
  generalize madeCells #[Value.int .u8 0] len = M at *
  go_enter Try.func18, Try.ntmps18
  go_wp2
  go_ret
  exact ⟨rfl, rfl⟩

end Go.Proofs.Qxb6609280a
