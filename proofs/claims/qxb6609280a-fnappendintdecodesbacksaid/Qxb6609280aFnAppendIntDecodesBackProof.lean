/-
  SEAT b6609280a: 'Rows.FnAppendIntDecodesBackSaid': the law's walk over the callees' contracts (Qxb6609280aW1, W2, W3), in the frame that the guide's tool wrote for this function.
-/
import Derived.Test.Qxb6609280aRows
import Derived.WalkKit
import Derived.ProofKit
import Derived.OpenShut
import Derived.ShutString
import Derived.ChangeOld
import Derived.Below
import Derived.Test.Qxb6609280aW3
namespace Go.Proofs.Qxb6609280a.fnAppendIntDecodesBack
open Go.ChangeShapes Go.WideShapes Go.ChangeAt Go.RowKit
open Go.ChangeMaps (open_string shut_string)
set_option linter.unusedVariables false

theorem own : ownKnob Try.prog.godebug = none := by kernel_rfl
theorem laidOut : laidOutB Try.prog = true := by kernel_rfl

/-- WHAT THE WALK IS TOLD OF A SLICE OF INTEGERS THAT CAME IN: it is nil; or it leads to a row of 'cap' cells, the numbers 'zs' (the first 'len' are its elements, the rest its spare room), each fitting its kind. -/
def IsRow (k : IntKind) (w : World) (a : Option Addr) (len cap : Nat) (zs : List Int) : Prop :=
  (a = none ∧ len = 0 ∧ cap = 0 ∧ zs = []) ∨
  ∃ x, a = some x ∧ len ≤ cap ∧ cap ≤ maxLen ∧ zs.length = cap ∧ (∀ i, i < zs.length → w.cell? (x.add i) = some (.int k (zs.getD i 0))) ∧ ∀ n ∈ zs, (Lit.int k n).wf = true

theorem IsRow.full {w : World} {a : Option Addr} {len cap : Nat} {zs : List Int} (h : IsRow .u8 w a len cap zs) : Full w a len (intCells (zs.take len)) ∧ (a = none → cap = 0) := by
  rcases h with ⟨rfl, rfl, rfl, rfl⟩ | ⟨x, rfl, hlc, _, hz, hcell, _⟩
  · exact ⟨⟨fun _ => rfl, rfl, by simp⟩, fun _ => rfl⟩
  · refine ⟨⟨by simp, by rw [length_intCells, List.length_take]; omega, ?_⟩, by simp⟩
    intro a ha j u hj
    simp at ha
    subst ha
    have hjl : j < (zs.take len).length := by
      have := (List.getElem?_eq_some_iff.1 hj).1
      rwa [length_intCells] at this
    rw [getElem_intCells _ j hjl] at hj
    rw [List.length_take] at hjl
    have e : (zs.take len).getD j 0 = zs.getD j 0 := by
      rw [List.getD_eq_getElem?_getD, List.getD_eq_getElem?_getD, List.getElem?_take, if_pos (by omega)]
    rw [e] at hj
    rw [← hj]
    exact hcell j (by omega)

theorem range_i64 {v : Int} (h : (Lit.int .i64 v).wf = true) : -9223372036854775808 ≤ v ∧ v ≤ 9223372036854775807 := by
  have := bounds_i64 h
  omega

theorem walk_long (a0 : Option Addr) (len0 cap0 : Nat) (f v : Int) (w : World) (hl : 1048576 < len0) :
    Calls Try.prog 4 #[.slice a0 len0 cap0, .int .i64 f, .int .i64 v] w fun e w' => e = .returned (.bool true) ∧ w' = w := by
  go_enter Try.func4, Try.ntmps4
  go_wp2_with (go_at_call 17; refine (bytes17_no a0 len0 cap0 f v w hl).mono ?_; rintro e w' ⟨rfl, rfl⟩)
  go_ret
  exact ⟨rfl, rfl⟩

set_option maxHeartbeats 2000000 in
theorem walk_zero (a0 : Option Addr) (len0 cap0 : Nat) (zs : List Int) (f : Int) (w : World) (hf0 : Full w a0 len0 (intCells zs)) (hcap0 : a0 = none → cap0 = 0) (hl : len0 ≤ 1048576) :
    Calls Try.prog 4 #[.slice a0 len0 cap0, .int .i64 f, .int .i64 0] w fun e w' => e = .returned (.bool true) ∧ Below w.heap.size w w' := by
  go_enter Try.func4, Try.ntmps4
  go_wp2_with fail
  refine (bytes17 a0 len0 cap0 f 0 w hl).mono ?_
  rintro e w' ⟨rfl, rfl⟩
  go_wp2_with fail
  refine (clone_any a0 len0 cap0 zs _ hf0 hcap0 hl).mono ?_
  rintro e w1 ⟨bo1, rfl, hh1, hb1, hf1⟩
  go_wp2_with fail
  refine (clone_any bo1 len0 len0 zs w1 hf1 hf1.nil hl).mono ?_
  rintro e w2 ⟨bo2, rfl, hh2, hb2, hf2⟩
  have hf1' := hf1.later hb2
  have hbel := hb1.trans (hb2.mono hb1.size)
  go_wp2_with fail
  refine (appendInt_zero f w2 (.slice bo1 len0 len0)).mono ?_
  rintro e w3 ⟨rfl, rfl⟩
  go_wp2_with fail
  refine (isPrefix_any bo2 bo1 len0 len0 len0 len0 zs w3 hh2 hf2 (hf1'.head hh1) (Nat.le_refl _) (by omega)).mono ?_
  rintro e w4 ⟨rfl, q, rfl⟩
  go_wp2
  go_ret
  exact ⟨rfl, below_drewN hbel q⟩

theorem key_and (f : Int) : bits .and .u64 (keyOf f : Int) 7 = 0 := by
  have h := keyOf_lt f
  have e := bits_mask .u64 64 (by decide) wraps_u64 3 (by decide) (keyOf f : Int) (by omega) (by omega)
  have e2 : ((keyOf f : Nat) : Int) % 8 = 0 := by unfold keyOf; omega
  exact e.trans e2
theorem key_shr (f : Int) : ((keyOf f : Nat) : Int) / 8 = bits .and .u64 (encOf f : Int) 2305843009213693951 := by
  have h := encOf_lt f
  have e := bits_mask .u64 64 (by decide) wraps_u64 61 (by decide) (encOf f : Int) (by omega) (by omega)
  refine Eq.trans ?_ e.symm
  unfold keyOf encOf
  omega
theorem enc_back (v : Int) (h1 : -9223372036854775808 ≤ v) (h2 : v ≤ 9223372036854775807) : wrap64 (encOf v : Int) = v := by
  unfold wrap64 encOf
  omega

set_option maxHeartbeats 4000000 in
theorem walk_big (a0 : Option Addr) (len0 cap0 : Nat) (zs : List Int) (f v : Int) (w : World) (hf0 : Full w a0 len0 (intCells zs)) (hcap0 : a0 = none → cap0 = 0) (hl : len0 ≤ 1048576) (hv0 : v ≠ 0) (hv1 : -9223372036854775808 ≤ v) (hv2 : v ≤ 9223372036854775807) :
    Calls Try.prog 4 #[.slice a0 len0 cap0, .int .i64 f, .int .i64 v] w fun e w' => e = .returned (.bool true) ∧ Below w.heap.size w w' := by
  have hu0 := encOf_pos hv0 hv1 hv2
  have hzl : zs.length = len0 := by rw [← length_intCells]; exact hf0.olen
  obtain ⟨hfl, hf20⟩ := fieldBytes_len f v
  have hne := fieldBytes_ne f v
  have hcl := length_byteCells (fieldBytes f v)
  have hv0' : (v == 0) = false := beq_eq_false_iff_ne.2 hv0
  have hkl := keyOf_lt f
  have hel := encOf_lt v
  have Hzl : Hid (zs.length = len0) := hzl
  have Hfl : Hid ((fieldBytes f v).length = (Lib.uvarint (keyOf f)).length + (Lib.uvarint (encOf v)).length) := hfl
  have Hcl : Hid ((Lib.byteCells (fieldBytes f v)).length = (fieldBytes f v).length) := hcl
  clear hzl hfl hcl hv0
  go_enter Try.func4, Try.ntmps4
  go_wp2_with fail
  refine (bytes17 a0 len0 cap0 f v w hl).mono ?_
  rintro e w' ⟨rfl, rfl⟩
  go_wp2_with fail
  refine (clone_any a0 len0 cap0 zs _ hf0 hcap0 hl).mono ?_
  rintro e w1 ⟨bo1, rfl, hh1, hb1, hf1⟩
  go_wp2_with fail
  refine (clone_any bo1 len0 len0 zs w1 hf1 hf1.nil hl).mono ?_
  rintro e w2 ⟨bo2, rfl, hh2, hb2, hf2⟩
  have hf1' := hf1.later hb2
  have hbel := hb1.trans (hb2.mono hb1.size)
  go_wp2_with fail
  refine (appendInt hf1' f v hu0 w2 (.slice bo1 len0 len0) [] (App.start _ _ _ _) (by simp; omega)).mono ?_
  rintro e w3 ⟨v3, rfl, happ3⟩
  rw [List.nil_append] at happ3
  have hf2' := hf2.later happ3.bel
  have hbel4 := hbel.trans (happ3.bel.mono hbel.size)
  obtain ⟨g, oc, hv3, hout⟩ := happ3.value hne
  obtain ⟨d1, d2⟩ := read_cells Hzl.out hout
  subst hv3
  have hpre : ∀ j u, (intCells zs)[j]? = some u → w3.cell? ⟨g, j, none⟩ = some u := fun j u hj => hout j u (by rw [List.getElem?_append_left (List.getElem?_eq_some_iff.1 hj).1]; exact hj)
  rw [Hcl.out, Hfl.out]
  rw [Hfl.out] at hf20
  clear hf0 hf1 hf1' hf2 hb1 hb2 happ3 hbel hne Hfl Hcl Hzl hout
  go_wp2_with fail
  refine (isPrefix_any bo2 (some ⟨g, 0, none⟩) len0 len0 _ oc zs w3 hh2 hf2' (fun _ => ⟨g, rfl, hpre⟩) (by omega) (by omega)).mono ?_
  rintro e w4 ⟨rfl, q, rfl⟩
  clear hpre hf2'
  go_wp2_with fail
  refine (readVarint g _ oc len0 (keyOf f) hkl (w3.drewN q) (by omega) (by omega) d1).mono ?_
  rintro e w5 ⟨rfl, rfl⟩
  have ka := key_and f
  have ks := key_shr f
  have ew := enc_wrap f
  have eb := enc_back v hv1 hv2
  go_wp2_with fail
  refine (readVarint_at _ g _ oc (len0 + (Lib.uvarint (keyOf f)).length) (encOf v) (by omega) hel (w3.drewN q) (by omega) (by omega) d2).mono ?_
  rintro e w6 ⟨rfl, rfl⟩
  clear d1 d2
  generalize (Lib.uvarint (keyOf f)).length = n1 at *
  generalize (Lib.uvarint (encOf v)).length = n2 at *
  go_wp2
  go_ret
  exact ⟨by simp [Int.add_assoc], below_drewN hbel4 q⟩

/-! ### THE WALK -/
theorem walk (a0 : Option Addr) (len0 cap0 : Nat) (z0 : List Int) (a1 : Int) (a2 : Int) (w : World) (w0 : IsRow .u8 w a0 len0 cap0 z0) (w1 : (Lit.int .i64 a1).wf = true) (w2 : (Lit.int .i64 a2).wf = true) :
    Calls Try.prog 4 #[.slice a0 len0 cap0, .int .i64 a1, .int .i64 a2] w fun e w' => e = .returned (.bool true) ∧ Below w.heap.size w w' := by
  obtain ⟨hf0, hcap0⟩ := w0.full
  have b2 := range_i64 w2
  by_cases hl : len0 ≤ 1048576
  · by_cases hv : a2 = 0
    · subst hv
      exact walk_zero a0 len0 cap0 (z0.take len0) a1 w hf0 hcap0 hl
    · exact walk_big a0 len0 cap0 (z0.take len0) a1 a2 w hf0 hcap0 hl hv b2.1 b2.2
  · refine (walk_long a0 len0 cap0 a1 a2 w (by omega)).mono ?_
    rintro e w' ⟨rfl, rfl⟩
    exact ⟨rfl, Below.refl _ _⟩

/-! ### THE ROW's STEP: WRITTEN OUT: LEAVE IT -/
set_option maxRecDepth 100000 in
theorem lifted (os : Os) (started : os.Started) (H : Type) (enc : TypeId × Value → H) :
    ReturnsInHanded {} Try.checked os 4 .any (Rows.fnAppendIntDecodesBackSpec.pre6 enc Try.prog Try.f4 Rows.fnAppendIntDecodesBackRow.domain false) (Rows.fnAppendIntDecodesBackSpec.post enc Try.prog Try.f4 false true false false) := by
  refine returnsInHanded_of_change (C := Try.checked) own started (by kernel_rfl) Try.func4
    (ChangeSpec.witness6 (enc := enc) (C := Try.checked) false ⟨#[], #[.slice none 0 0, .int .i64 0, .int .i64 0], []⟩ 8 (by kernel_rfl) (by kernel_rfl) (by kernel_rfl) (by kernel_rfl)) ?_
  intro W base args ds gs before hval0 hW hcnd _
  have hval : ∀ (j : Nat) t v, Try.f4.params[j]? = some t → args[j]? = some v → Value.okWide Try.prog W .any base t v := hval0
  have hW' := hW
  obtain ⟨p, q, hA0, hV, rfl, hfz, hnd⟩ := hW
  have hA : DataW.TrodAll enc Try.prog W 0 (fun _ => true) true Try.f4.params.toList args.toList ds p := hA0
  rw [Try.params4] at hA hval
  obtain ⟨v0, vs0, d0, ds0, p0, q0, hargs, rfl, rfl, h0, r0⟩ := trodAll_cons hA
  obtain ⟨v1, vs1, d1, ds1, p1, q1, rfl, rfl, rfl, h1, r1⟩ := trodAll_cons r0
  obtain ⟨v2, vs2, d2, ds2, p2, q2, rfl, rfl, rfl, h2, r2⟩ := trodAll_cons r1
  obtain ⟨rfl, rfl, rfl⟩ := trodAll_nil r2
  obtain rfl : args = #[v0, v1, v2] := by cases args; simp_all
  obtain ⟨rfl, rfl⟩ := trodVars_none hV
  obtain ⟨a0, len0, cap0, rfl⟩ := okWide_slice Try.underlying36 (hval 0 36 v0 rfl rfl)
  have k0 := h0
  have lt0 : ∀ x ∈ p0, x.block < W.heap.size := by obtain ⟨m, hm⟩ := k0; exact DataW.trod_lt m _ _ _ hm
  obtain ⟨z0, w0⟩ : ∃ zs, IsRow .u8 W a0 len0 cap0 zs := by
    obtain ⟨fuel, hf⟩ := h0
    rcases open_ints Try.underlying36 Try.underlying5 (by kernel_rfl) hf with ⟨hcs, _⟩ | ⟨x, l, c, zs, hcs, _, hl, hm, hz, _, hcell, hwz⟩
    · simp [Value.cells] at hcs
      obtain ⟨rfl, rfl, rfl⟩ := hcs
      exact ⟨[], .inl ⟨rfl, rfl, rfl, rfl⟩⟩
    · simp [Value.cells] at hcs
      obtain ⟨rfl, rfl, rfl⟩ := hcs
      exact ⟨zs, .inr ⟨_, rfl, hl, hm, by simpa using hz, hcell, hwz⟩⟩
  obtain ⟨a1, rfl, rfl, rfl, w1⟩ := open_int Try.underlying3 (hval 1 3 v1 rfl rfl) h1
  obtain ⟨a2, rfl, rfl, rfl, w2⟩ := open_int Try.underlying2 (hval 2 2 v2 rfl rfl) h2
  clear hA0 hval0
  refine (walk a0 len0 cap0 z0 a1 a2 W w0 w1 w2).mono fun e W' ⟨he, bel⟩ => ?_
  subst he
  exact ⟨_, rfl, _, _, _, [], _, [], hW', trodAll_mk1 (shut_bool Try.underlying4 _), (trodAll_cons_mk (Below.trod laidOut (by kernel_rfl) (of_decide_eq_true (by kernel_rfl)) k0 bel lt0) (trodAll_cons_mk (shut_int Try.underlying3 w1) (trodAll_cons_mk (shut_int Try.underlying2 w2) trodAll_mk0))), rfl, bel.frame _, fun h => by cases h⟩

theorem over : Rows.fnAppendIntDecodesBackRow.holds Try.pinned (OpenSpec.ofChange Rows.fnAppendIntDecodesBackSpec) :=
  OpenClaim.holds_of_wide 4 Try.f4 rfl rfl rfl rfl rfl rfl rfl ⟨rfl, rfl, rfl, rfl, rfl⟩ rfl rfl rfl rfl rfl (by kernel_rfl) Try.func4 (by kernel_rfl)
    (of_decide_eq_true (by kernel_rfl)) (by unfold Func.isWrapper; first | (rw [if_pos (by decide +kernel)]; kernel_rfl) | (rw [if_neg (by decide +kernel)]; exact ⟨rfl, rfl⟩))
    (fun os started H enc _ => lifted os started H enc)

/-- ████ THE STATEMENT ████ -/
theorem proved : Rows.FnAppendIntDecodesBackSaid := over
#print axioms proved
end Go.Proofs.Qxb6609280a.fnAppendIntDecodesBack
