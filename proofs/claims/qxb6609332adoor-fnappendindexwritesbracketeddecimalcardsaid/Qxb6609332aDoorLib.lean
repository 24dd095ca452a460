/-
  SEAT b6609332aD: the library's functions on the road, as contracts at this program: strconv.AppendInt at base 10 and (littleEndian).PutUint64 LAID off the guide's shelf (the plain text that the guide's tool writes for this program); math/bits.TrailingZeros64 and slices.Grow walked here, after the shelf's own texts.
-/
import Derived.Shelf.LaysM
import Derived.Shelf.Bin.LEPutUint64
import Derived.Shelf.Strconv.AppendIntPublic10
import Derived.Shelf.Spec.TrailingZeros
import Derived.Lib.AppendZerosOnto
import Derived.WalkKit
import Derived.Test.Qxb6609332aDoorRows
import Derived.Test.Qxb6609332aDoorSwar
namespace Go.Proofs
open Go.Shelf
def Tryd.laysBin34_ren : Go.Shelf.Ren := ⟨fun | 34 => 20 | n => n, fun | 25 => 42 | 22 => 22 | 33 => 38 | 0 => 0 | 5 => 5 | 45 => 39 | n => n, fun | n => n⟩
theorem Tryd.laysBin34 : Go.Proofs.LaysBin.n34 Tryd.prog Tryd.laysBin34_ren := {
  mixed := by kernel_rfl
  f34 := Tryd.func20.trans (congrArg some (by kernel_rfl))
  t0 := Tryd.underlying0
  a0 := Tryd.isAgg0
  z0 := Tryd.sizeOf0
  v0 := Tryd.zeroValue0
  i0 := by kernel_rfl
  t5 := Tryd.underlying5
  a5 := Tryd.isAgg5
  z5 := Tryd.sizeOf5
  v5 := Tryd.zeroValue5
  i5 := by kernel_rfl
  t22 := Tryd.underlying22
  a22 := Tryd.isAgg22
  z22 := Tryd.sizeOf22
  v22 := Tryd.zeroValue22
  i22 := by kernel_rfl
  t25 := Tryd.underlying42
  a25 := Tryd.isAgg42
  z25 := Tryd.sizeOf42
  v25 := Tryd.zeroValue42
  i25 := by kernel_rfl
  t33 := Tryd.underlying38
  a33 := Tryd.isAgg38
  z33 := Tryd.sizeOf38
  v33 := Tryd.zeroValue38
  i33 := by kernel_rfl
  t45 := Tryd.underlying39
  a45 := Tryd.isAgg39
  z45 := Tryd.sizeOf39
  v45 := Tryd.zeroValue39
  i45 := by kernel_rfl }
open Go.RowKit in
/-- (littleEndian).PutUint64 at this program: laid off the shelf. -/
theorem Tryd.binary_LE_PutUint64 (g o n c v : Nat) (hv : v < 18446744073709551616) (x0 x1 x2 x3 x4 x5 x6 x7 : Value) (w : World) (hn : 8 ≤ n) (c0 : w.cell? ⟨g, o, none⟩ = some x0) (c1 : w.cell? ⟨g, o + 1, none⟩ = some x1) (c2 : w.cell? ⟨g, o + 2, none⟩ = some x2) (c3 : w.cell? ⟨g, o + 3, none⟩ = some x3) (c4 : w.cell? ⟨g, o + 4, none⟩ = some x4) (c5 : w.cell? ⟨g, o + 5, none⟩ = some x5) (c6 : w.cell? ⟨g, o + 6, none⟩ = some x6) (c7 : w.cell? ⟨g, o + 7, none⟩ = some x7) (f0 : w.frozen? ⟨g, o, none⟩ = false) (f1 : w.frozen? ⟨g, o + 1, none⟩ = false) (f2 : w.frozen? ⟨g, o + 2, none⟩ = false) (f3 : w.frozen? ⟨g, o + 3, none⟩ = false) (f4 : w.frozen? ⟨g, o + 4, none⟩ = false) (f5 : w.frozen? ⟨g, o + 5, none⟩ = false) (f6 : w.frozen? ⟨g, o + 6, none⟩ = false) (f7 : w.frozen? ⟨g, o + 7, none⟩ = false) :
    Calls Tryd.prog 20 #[.agg #[], .slice (some ⟨g, o, none⟩) n c, .int .u64 v] w fun e w' => e = .returned (.tuple #[]) ∧ w' = (w.alloc (.cells #[] 42)).setCells g o (Lib.byteCells (Lib.leBytes 8 v)) := Any.binary_LE_PutUint64 Tryd.laysBin34 g o n c v hv x0 x1 x2 x3 x4 x5 x6 x7 w hn c0 c1 c2 c3 c4 c5 c6 c7 f0 f1 f2 f3 f4 f5 f6 f7
def Tryd.laysM176_ren : Go.Shelf.Ren := ⟨fun | 176 => 17 | 249 => 21 | 288 => 22 | 283 => 23 | 284 => 24 | 285 => 25 | 286 => 26 | 129 => 28 | 317 => 27 | 318 => 29 | 319 => 30 | 320 => 31 | 337 => 32 | 338 => 18 | n => n, fun | 37 => 22 | 2 => 2 | 3 => 3 | 53 => 38 | 4 => 4 | 9 => 9 | 171 => 34 | 0 => 0 | 173 => 47 | 212 => 51 | 51 => 52 | 5 => 5 | 20 => 20 | 213 => 53 | 46 => 39 | 232 => 57 | 233 => 44 | n => n, fun | 17 => 2 | 18 => 3 | 19 => 1 | n => n⟩
theorem Tryd.laysM176 : Go.Proofs.LaysM.n176 Tryd.prog Tryd.laysM176_ren := {
  mixed := by kernel_rfl
  f129 := Tryd.func28.trans (congrArg some (by kernel_rfl))
  f176 := Tryd.func17.trans (congrArg some (by kernel_rfl))
  f249 := Tryd.func21.trans (congrArg some (by kernel_rfl))
  f283 := Tryd.func23.trans (congrArg some (by kernel_rfl))
  f284 := Tryd.func24.trans (congrArg some (by kernel_rfl))
  f285 := Tryd.func25.trans (congrArg some (by kernel_rfl))
  f286 := Tryd.func26.trans (congrArg some (by kernel_rfl))
  f288 := Tryd.func22.trans (congrArg some (by kernel_rfl))
  f317 := Tryd.func27.trans (congrArg some (by kernel_rfl))
  f318 := Tryd.func29.trans (congrArg some (by kernel_rfl))
  f319 := Tryd.func30.trans (congrArg some (by kernel_rfl))
  f320 := Tryd.func31.trans (congrArg some (by kernel_rfl))
  f337 := Tryd.func32.trans (congrArg some (by kernel_rfl))
  f338 := Tryd.func18.trans (congrArg some (by kernel_rfl))
  t0 := Tryd.underlying0
  a0 := Tryd.isAgg0
  z0 := Tryd.sizeOf0
  v0 := Tryd.zeroValue0
  t2 := Tryd.underlying2
  a2 := Tryd.isAgg2
  z2 := Tryd.sizeOf2
  v2 := Tryd.zeroValue2
  t3 := Tryd.underlying3
  a3 := Tryd.isAgg3
  z3 := Tryd.sizeOf3
  v3 := Tryd.zeroValue3
  t4 := Tryd.underlying4
  a4 := Tryd.isAgg4
  z4 := Tryd.sizeOf4
  v4 := Tryd.zeroValue4
  t5 := Tryd.underlying5
  a5 := Tryd.isAgg5
  z5 := Tryd.sizeOf5
  v5 := Tryd.zeroValue5
  t9 := Tryd.underlying9
  a9 := Tryd.isAgg9
  z9 := Tryd.sizeOf9
  v9 := Tryd.zeroValue9
  t20 := Tryd.underlying20
  a20 := Tryd.isAgg20
  z20 := Tryd.sizeOf20
  v20 := Tryd.zeroValue20
  t37 := Tryd.underlying22
  a37 := Tryd.isAgg22
  z37 := Tryd.sizeOf22
  v37 := Tryd.zeroValue22
  t46 := Tryd.underlying39
  a46 := Tryd.isAgg39
  z46 := Tryd.sizeOf39
  v46 := Tryd.zeroValue39
  t51 := Tryd.underlying52
  a51 := Tryd.isAgg52
  z51 := Tryd.sizeOf52
  v51 := Tryd.zeroValue52
  t53 := Tryd.underlying38
  a53 := Tryd.isAgg38
  z53 := Tryd.sizeOf38
  v53 := Tryd.zeroValue38
  t171 := Tryd.underlying34
  a171 := Tryd.isAgg34
  z171 := Tryd.sizeOf34
  v171 := Tryd.zeroValue34
  t173 := Tryd.underlying47
  a173 := Tryd.isAgg47
  z173 := Tryd.sizeOf47
  v173 := Tryd.zeroValue47
  t212 := Tryd.underlying51
  a212 := Tryd.isAgg51
  z212 := Tryd.sizeOf51
  v212 := Tryd.zeroValue51
  t213 := Tryd.underlying53
  a213 := Tryd.isAgg53
  z213 := Tryd.sizeOf53
  t232 := Tryd.underlying57
  a232 := Tryd.isAgg57
  z232 := Tryd.sizeOf57
  v232 := Tryd.zeroValue57
  t233 := Tryd.underlying44
  a233 := Tryd.isAgg44
  z233 := Tryd.sizeOf44
  v233 := Tryd.zeroValue44
  g17 := by kernel_rfl
  g18 := by kernel_rfl
  g19 := by kernel_rfl
  i0 := by kernel_rfl
  i2 := by kernel_rfl
  i3 := by kernel_rfl
  i4 := by kernel_rfl
  i5 := by kernel_rfl
  i9 := by kernel_rfl
  i20 := by kernel_rfl
  i37 := by kernel_rfl
  i46 := by kernel_rfl
  i51 := by kernel_rfl
  i53 := by kernel_rfl
  i171 := by kernel_rfl
  i173 := by kernel_rfl
  i212 := by kernel_rfl
  i232 := by kernel_rfl
  i233 := by kernel_rfl
  m17 := by kernel_rfl
  m18 := by kernel_rfl
  m19 := by kernel_rfl }

namespace Qxb6609332aDoor
open Go.RowKit Go.Lib

/-! ### math/bits.TrailingZeros64: its table is package-level variable 1 -/
set_option maxHeartbeats 1000000 in
theorem tz64_core (x k idx : Nat) (w : World) (hx0 : ((x : Int) == 0) = false)
    (key : IntKind.u64.wrap (bits BinOp.and IntKind.u64 (x : Int) (IntKind.u64.wrap (-(x : Int))) * 285870213051353865) / 288230376151711744 = (idx : Int))
    (hi : idx < 64) (hk : k < 64) (hcell : w.cell? ⟨1, idx, none⟩ = some (.int .u8 k)) :
    Calls Tryd.prog 18 #[.int .u64 x] w fun e w' => e = .returned (.int .i64 k) ∧ w' = w := by
  go_enter Tryd.func18, Tryd.ntmps18
  go_wp2_with (simp only [key])
  go_ret
  exact ⟨rfl, rfl⟩

theorem tz64 (x : Nat) (hx : x < 18446744073709551616) (hx0 : x ≠ 0) (w : World) (hT : TabAt 1 Lib.deBruijn64tab w) :
    Calls Tryd.prog 18 #[.int .u64 x] w fun e w' => e = .returned (.int .i64 (Lib.ctz 64 x)) ∧ w' = w := by
  obtain ⟨hlow, hk⟩ := Lib.lowest_bit 64 x hx0 hx
  obtain ⟨hi, htab⟩ := Lib.deBruijn64_at _ hk
  have hcell := hT _ hi
  rw [htab] at hcell
  exact tz64_core x _ _ w (by simp; omega) (tz64_key x _ hx hx0 hlow) hi hk hcell

/-! ### slices.Grow at []byte -/
theorem Tryd.i5 : (Tryd.prog.info? 5).map (fun i => (i.zero, i.size, i.bytes)) = some (some (Value.int IntKind.u8 0), 1, 1) := by kernel_rfl

set_option maxHeartbeats 2000000 in
theorem grow_room (base : Option Addr) (l c n : Nat) (w : World) (hlc : l ≤ c) (hc63 : c ≤ 9223372036854775807) (hn63 : n ≤ 9223372036854775807) (hroom : l + n ≤ c) :
    Calls Tryd.prog 19 #[.slice base l c, .int .i64 n] w fun e w' => e = .returned (.slice base l c) ∧ w' = w := by
  have h1 : ¬ ((n : Int) < 0) := by omega
  have h2 : wrap64 ((c : Int) - (l : Int)) = (c : Int) - (l : Int) := by unfold wrap64; omega
  have h3 : wrap64 ((n : Int) - ((c : Int) - (l : Int))) = (n : Int) - ((c : Int) - (l : Int)) := by unfold wrap64; omega
  have h4 : ¬ ((n : Int) - ((c : Int) - (l : Int)) > 0) := by omega
  go_enter Tryd.func19, Tryd.ntmps19
  go_wp2
  go_ret
  exact ⟨rfl, rfl⟩

set_option maxHeartbeats 4000000 in
set_option maxRecDepth 100000 in
theorem grow_grow (g l c n : Nat) (cs : List Value) (w : World) (hlc : l ≤ c) (hroom : c < l + n) (hbig : l + n ≤ 140737488355328)
    (hcl : cs.length = c) (hcs : ∀ j v, cs[j]? = some v → w.cell? ⟨g, j, none⟩ = some v) :
    Calls Tryd.prog 19 #[.slice (some ⟨g, 0, none⟩) l c, .int .i64 n] w fun e w' => ∃ G, l + n ≤ G ∧ G ≤ maxLen ∧
      e = .returned (.slice (some ⟨w.heap.size, 0, none⟩) l G) ∧ w' = w.drew.alloc (.cells (cs.toArray ++ Builtin.zeroCells #[.int .u8 0] (l + n - c) ++ Builtin.zeroCells #[.int .u8 0] (G - (l + n))) 5) := by
  obtain ⟨i0, hi0, hz0, hs1, hb1⟩ := info_parts Tryd.i5
  have h1 : ¬ ((n : Int) < 0) := by omega
  have h2 : wrap64 ((c : Int) - (l : Int)) = (c : Int) - (l : Int) := by unfold wrap64; omega
  have h3 : wrap64 ((n : Int) - ((c : Int) - (l : Int))) = (n : Int) - ((c : Int) - (l : Int)) := by unfold wrap64; omega
  have h4 : (n : Int) - ((c : Int) - (l : Int)) > 0 := by omega
  have hck : c + (l + n - c) = l + n := by omega
  have hold : (Builtin.firstCells i0.size c (.slice (some ⟨g, 0, none⟩) c c)).run Tryd.prog w.drew = .ok cs.toArray w.drew :=
    run_firstCells_some w.drew i0.size c ⟨g, 0, none⟩ c c cs (by rw [hs1, hcl]; omega) (fun j v hj => by rw [Addr.add_lit, Nat.zero_add]; exact hcs j v hj)
  have hrz : ∀ ty, (Builtin.append_ #[22, 3] ty #[.slice (some ⟨g, 0, none⟩) c c, .int .i64 ((n : Int) - ((c : Int) - (l : Int)))]).run Tryd.prog w =
      .ok (.slice (some ⟨w.heap.size, 0, none⟩) (l + n) (grownCap w (l + n) c 5)) (w.drew.alloc (.cells (cs.toArray ++ Builtin.zeroCells #[.int .u8 0] (l + n - c) ++ Builtin.zeroCells #[.int .u8 0] (grownCap w (l + n) c 5 - (l + n))) 5)) := fun ty => by
    have h := Lib.run_append_grow_zeros (P := Tryd.prog) w 22 3 ty 5 i0 (.int .u8 0) .i64 .i64 Tryd.underlying22 Tryd.underlying3 hi0 hz0 (some ⟨g, 0, none⟩) c c cs hold (l + n - c) (by omega) (by omega) (by omega) (by omega)
      (by rw [hb1]; omega)
      (by rw [hck]; exact growslice_fits hroom (by rw [hb1]; omega))
    rw [hck] at h
    rw [show (n : Int) - ((c : Int) - (l : Int)) = ((l + n - c : Nat) : Int) by omega]
    exact h
  have hGn : l + n ≤ grownCap w (l + n) c 5 := grownCap_ge w _ _ _
  have hGm := grownCap_le_maxLen w (l + n) c 5 (by unfold maxLen; omega)
  obtain ⟨G, hG⟩ : ∃ G, G = grownCap w (l + n) c 5 := ⟨_, rfl⟩
  rw [← hG] at hrz hGn hGm
  have hG63 : G ≤ 9223372036854775807 := by unfold maxLen at hGm; omega
  clear hold hck hG hcs hcl
  go_enter Tryd.func19, Tryd.ntmps19
  go_wp2_with (at_builtin; refine Lib.wpList_append_run _ rfl _ _ _ _ rfl _ _ rfl rfl _ _ (hrz _) ?_)
  all_goals (go_ret; exact ⟨G, hGn, hGm, rfl, rfl⟩)

end Qxb6609332aDoor
end Go.Proofs
