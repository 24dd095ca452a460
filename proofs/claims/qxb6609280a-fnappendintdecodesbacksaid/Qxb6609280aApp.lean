/-
  APPENDING BYTE BY BYTE onto a slice without spare room, seat b6609280a: the relation 'App', its one step, and the walk of encoding/binary.AppendUvarint over it.
-/
import Derived.Test.Qxb6609280aRows
import Derived.Test.Qxb6609280aPlain
import Derived.WalkKit
import Derived.ArgAppend
import Derived.OwnWalk
import Derived.Below
namespace Go.Proofs.Qxb6609280a
open Go.RowKit

theorem Try.i5 : (Try.prog.info? 5).map (fun i => (i.zero, i.size, i.bytes)) = some (some (Value.int IntKind.u8 0), 1, 1) := by kernel_rfl

/-- A SLICE WITHOUT SPARE ROOM in the world W: nil, or 'len' cells that hold 'olds'. -/
structure Full (W : World) (ao : Option Addr) (len : Nat) (olds : List Value) : Prop where
  nil : ao = none → len = 0
  olen : olds.length = len
  cells : ∀ a, ao = some a → ∀ j u, olds[j]? = some u → W.cell? (a.add j) = some u

theorem add_block (a : Addr) (j : Nat) : (a.add j).block = a.block := by
  unfold Addr.add; split <;> rfl

theorem add_zero (a : Addr) : a.add 0 = a := by
  unfold Addr.add; split <;> simp_all

theorem Full.lt {W : World} {ao : Option Addr} {len : Nat} {olds : List Value} (h : Full W ao len olds) {a : Addr} (ha : ao = some a) {j : Nat} {u : Value} (hj : olds[j]? = some u) : a.block < W.heap.size := by
  have := World.block_lt_of_cell? W (a.add j) (h.cells a ha j u hj)
  rwa [add_block] at this

/-- 'ks' HAVE BEEN APPENDED to it, one by one; now, in the world w, the value is v. Nothing of W has turned. -/
structure App (W : World) (ao : Option Addr) (len : Nat) (olds : List Value) (w : World) (v : Value) (ks : List Value) : Prop where
  bel : Below W.heap.size W w
  val : (ks = [] ∧ v = .slice ao len len) ∨ w.ownsRow W.heap.size 5 1 v (len + ks.length) (olds ++ ks)

theorem App.start (W : World) (ao : Option Addr) (len : Nat) (olds : List Value) : App W ao len olds W (.slice ao len len) [] := ⟨Below.refl _ _, .inl ⟨rfl, rfl⟩⟩

theorem App.alloc {W : World} {ao : Option Addr} {len : Nat} {olds : List Value} {w : World} {v : Value} {ks : List Value} (h : App W ao len olds w v ks) (o : Obj) : App W ao len olds (w.alloc o) v ks :=
  ⟨h.bel.alloc h.bel.size o, by
    rcases h.val with h1 | h1
    · exact .inl h1
    · exact .inr (h1.alloc o)⟩

theorem run_append_app {W : World} {ao : Option Addr} {len : Nat} {olds : List Value} (hc : Full W ao len olds) (ty : TypeId)
    {w : World} {v : Value} {ks : List Value} (h : App W ao len olds w v ks) (ad : Addr) (c : Nat) (u : Value) (hnew : w.cell? ad = some u) (h1 : u.oneCell' = true) (hlim : len + ks.length + 1 ≤ 140737488355328) :
    ∃ v' w', (Builtin.append_ #[36, 36] ty #[v, .slice (some ad) 1 c]).run Try.prog w = .ok v' w' ∧ App W ao len olds w' v' (ks ++ [u]) := by
  obtain ⟨i0, hi, hz0, hz1, hz2⟩ := info_parts Try.i5
  have hnews : ∀ j x, [u][j]? = some x → w.cell? (ad.add j) = some x := by
    intro j x hj
    match j, hj with
    | 0, hj => simp at hj; subst hj; rw [add_zero]; exact hnew
  have h1' : ∀ x ∈ [u], x.oneCell' = true := by intro x hx; simp at hx; subst hx; exact h1
  have h63 : len + ks.length + 1 ≤ maxLen := by unfold maxLen; omega
  rcases h.val with ⟨rfl, rfl⟩ | hown
  · cases ao with
    | none =>
      obtain rfl := hc.nil rfl
      obtain rfl : olds = [] := List.eq_nil_of_length_eq_zero hc.olen
      obtain ⟨v', w', hrun, r1, r2, _⟩ := run_append_own (P := Try.prog) w W.heap.size 36 ty 5 i0 _ 1 1 Try.underlying36 hi hz0 hz1 hz2 rfl (by decide) (.slice none 0 0) 0 [] (World.ownsRow_nil w _ 5 1) ad 1 c [u] rfl hnews h1' (by unfold maxLen; omega) (by omega) h.bel.size
      exact ⟨v', w', hrun, h.bel.grown r2 h.bel.size (fun k hk => by simp [Value.ownBlock] at hk), .inr (by simpa using r1)⟩
    | some a =>
      have holds : ∀ j x, olds[j]? = some x → w.cell? (a.add j) = some x := fun j x hj => by
        rw [h.bel.cell (by rw [add_block]; exact hc.lt rfl hj)]
        exact hc.cells a rfl j x hj
      obtain ⟨v', w', hrun, r1, r2⟩ := run_append_arg_grows (P := Try.prog) w 36 ty 5 i0 _ 1 1 Try.underlying36 hi hz0 hz1 hz2 rfl (by decide) a len len olds (by rw [hc.olen]; omega) holds ad 1 c [u] rfl hnews (by omega) (by simpa using h63) (by simp at hlim; omega)
      refine ⟨v', w', hrun, h.bel.grown r2 h.bel.size (fun k hk => by simp at hk), .inr ?_⟩
      have hb := h.bel.size
      refine ⟨r1.1, ?_⟩
      rcases r1.2 with h2 | ⟨g, cap, cur, e1, e2, e3⟩
      · exact .inl h2
      · exact .inr ⟨g, cap, cur, e1, Nat.le_trans hb e2, e3⟩
  · obtain ⟨v', w', hrun, r1, r2, _⟩ := run_append_own (P := Try.prog) w W.heap.size 36 ty 5 i0 _ 1 1 Try.underlying36 hi hz0 hz1 hz2 rfl (by decide) v (len + ks.length) (olds ++ ks) hown ad 1 c [u] rfl hnews h1' h63 (by omega) h.bel.size
    refine ⟨v', w', hrun, h.bel.grown r2 h.bel.size (fun k hk => (hown.lt k hk).1), .inr ?_⟩
    rw [List.length_append, ← Nat.add_assoc, ← List.append_assoc]
    exact r1

theorem wpList_append_app (w : World) {ops : Array Oper} {rest : List Oper} {o : Oper} {a : Act} {Q : Exit → Act → World → Prop} (hgd : o.guard = none) (s x : Operand)
    (ho : o.op = .call { callee := .builtin .append, args := #[s, x], argTypes := #[36, 36] })
    {W : World} {ao : Option Addr} {len : Nat} {olds : List Value} (hc : Full W ao len olds)
    {v : Value} {ks : List Value} (hs : a.eval s = v) (h : App W ao len olds w v ks) (ad : Addr) (c : Nat) (u : Value) (hx : a.eval x = .slice (some ad) 1 c) (hnew : w.cell? ad = some u) (h1 : u.oneCell' = true) (hlim : len + ks.length + 1 ≤ 140737488355328)
    (hK : ∀ v' w', App W ao len olds w' v' (ks ++ [u]) → wpList Try.prog ops Q rest (a.put o.dst v') w') : wpList Try.prog ops Q (o :: rest) a w := by
  refine wpList_plain hgd fun K hK' => ?_
  obtain ⟨v', w', hrun, r⟩ := run_append_app hc o.type h ad c u hnew h1 hlim
  unfold Oper.wp
  simp [execOp, ho, resolve, invoke, builtin, hs, hx, hrun, Result.andThen]
  exact hK' _ _ (hK v' w' r)

theorem length_byteCells (l : List UInt8) : (Lib.byteCells l).length = l.length := by simp [Lib.byteCells]

set_option maxHeartbeats 2000000 in
set_option maxRecDepth 100000 in
/-- encoding/binary.AppendUvarint: x's varint is appended. -/
theorem appendUvarint {W : World} {ao : Option Addr} {len : Nat} {olds : List Value} (hc : Full W ao len olds) (x : Nat) (hx : x < 18446744073709551616)
    (w : World) (sv : Value) (ks : List Value) (happ : App W ao len olds w sv ks) (hlim : len + ks.length + 10 ≤ 140737488355328) :
    Calls Try.prog 28 #[sv, .int .u64 x] w fun e w' => ∃ v', e = .returned v' ∧ App W ao len olds w' v' (ks ++ Lib.byteCells (Lib.uvarint x)) := by
  have hlen := Lib.uvarint_length64 hx
  go_enter Try.func28, Try.ntmps28
  go_wp2
  go_loopw [0, 1] (fun vb vx wr => ∃ (y : Nat) (pre : List UInt8), vx = .int .u64 y ∧ y ≤ x ∧ Lib.uvarint x = pre ++ Lib.uvarint y ∧ App W ao len olds wr vb (ks ++ Lib.byteCells pre))
    (fun _ vx _ => (intOf vx).toNat)
  case atStart => exact ⟨x, [], rfl, Nat.le_refl _, rfl, by simpa [Lib.byteCells] using happ⟩
  case round =>
    obtain ⟨y, pre, rfl, hy, hsplit, happ1⟩ := hrel
    have hpl : pre.length + (Lib.uvarint y).length ≤ 10 := by
      have h2 := congrArg List.length hsplit
      rw [List.length_append] at h2
      omega
    have hyp := Lib.uvarint_pos y
    have hkl : len + (ks ++ Lib.byteCells pre).length + 1 ≤ 140737488355328 := by
      rw [List.length_append, length_byteCells]
      omega
    by_cases h128 : 128 ≤ y
    · have hor : bits .or .u8 ((y : Int) % 256) 128 = ((y % 128 + 128 : Nat) : Int) := by
        rw [Lib.u8_or128_any _ (by omega) (by omega)]
        omega
      go_wp2_with (at_builtin; refine wpList_append_app _ rfl _ _ rfl hc rfl (happ1.alloc _) ⟨wr.heap.size, 0, none⟩ 1 (Value.int .u8 ((y % 128 + 128 : Nat) : Int)) rfl ?c1 rfl hkl ?_)
      case c1 => simp
      intro v' w1 happ'
      go_wp2
      go_roundw
      case rel =>
        refine ⟨y / 128, pre ++ [(y % 128 + 128).toUInt8], by go_num, by omega, by rw [hsplit, Lib.uvarint_big h128]; simp, ?_⟩
        have ec : ((y % 128 + 128 : Nat) : Int) = (y : Int) % 128 + 128 := by omega
        rw [Lib.byteCells_snoc pre (by omega)]
        first | exact happ' | (rw [ec] at happ'; exact happ') | (rw [ec]; exact happ')
      case measure => simp [intOf]; omega
    · have hsm : Lib.uvarint y = [y.toUInt8] := Lib.uvarint_small (by omega)
      go_wp2_with (at_builtin; refine wpList_append_app _ rfl _ _ rfl hc rfl (happ1.alloc _) ⟨wr.heap.size, 0, none⟩ 1 (Value.int .u8 (y : Int)) rfl ?c1 rfl hkl ?_)
      case c1 => simp
      intro v' w1 happ'
      go_wp2
      go_ret
      refine ⟨v', rfl, ?_⟩
      rw [hsplit, hsm, Lib.byteCells_snoc pre (by omega)]
      exact happ'

end Go.Proofs.Qxb6609280a
